-- written by programs of ours (wip/tools) out of the kit's printer: the functions of one law, less those that are shared or proved by hand
import Derived.Test.YtgomeiepiajpeaaGreatQ0
import Derived.Test.YtgomeiepiajpeaaGreatQS32a
import Derived.Test.YtgomeiepiajpeaaGreatQS32b
namespace Go.Proofs.YtgomeiepiajpeaaGreat.Q
open Go.RowKit Go.Proofs.YtgomeiepiajpeaaGreatW.PrintWords Go.Proofs.YtgomeiepiajpeaaGreatW.PrintLast Go.Proofs.YtgomeiepiajpeaaGreatW.PrintMore
attribute [local go_sem] max2_int min2_int max_two min_two max_three min_three max_four min_four
set_option linter.unusedVariables false
set_option linter.unusedSimpArgs false

/-! ### spec_magDiv: function 51 -/
mutual
def spec_magDiv.l0 : Nat → List Int → List Int → List Int → List Int → Int → Option (List Int × List Int)
 | 0, _, _, _, _, _ => none
 | k + 1, x0, x1, x4, x5, x6 => if x6 ≥ 0 then ((spec_magAdd.f k x5 x5).bind fun t301 => (if 0 ≤ (wrap64 (Int.tdiv x6 32)) then (if (wrap64 (Int.tdiv x6 32)) < (x0.length : Int) then (if 0 ≤ (Int.tmod x6 32) then (if (Go.bits .and .u32 (shr .u32 (rd x0 (wrap64 (Int.tdiv x6 32))) (Int.tmod x6 32)) 1) = 1 then ((spec_magAdd.f k t301 (([1] : List Int))).bind fun t308 => (spec_magDiv.j1 k x0 x1 x4 t308 x6)) else (spec_magDiv.j1 k x0 x1 x4 t301 x6)) else (none)) else (none)) else (none))) else ((spec_trim.f k x4).bind fun t298 => (some (t298, x5)))
def spec_magDiv.j1 : Nat → List Int → List Int → List Int → List Int → Int → Option (List Int × List Int)
 | 0, _, _, _, _, _ => none
 | k + 1, x0, x1, x4, x5, x6 => (spec_trim.f k x5).bind fun t311 => ((spec_magCmp.f k t311 x1).bind fun t314 => (if t314 ≥ 0 then ((spec_magSub.f k t311 x1).bind fun t315 => (if 0 ≤ (wrap64 (Int.tdiv x6 32)) then (if (wrap64 (Int.tdiv x6 32)) < (x4.length : Int) then (if 0 ≤ (Int.tmod x6 32) then (spec_magDiv.l0 k x0 x1 (x4.set ((wrap64 (Int.tdiv x6 32)) : Int).toNat (Go.bits .or .u32 (rd x4 (wrap64 (Int.tdiv x6 32))) (shl .u32 1 (Int.tmod x6 32)))) t315 (wrap64 (x6 - 1))) else (none)) else (none)) else (none))) else (spec_magDiv.l0 k x0 x1 x4 t311 (wrap64 (x6 - 1)))))
end
def spec_magDiv.f (k : Nat) (l0 : List Int) (l1 : List Int) : Option (List Int × List Int) := if 0 ≤ (l0.length : Int) then (if ((l0.length : Int) : Int).toNat ≤ 70368744177664 then (spec_magDiv.l0 k l0 l1 (List.replicate ((l0.length : Int) : Int).toNat 0) ([] : List Int) (wrap64 ((wrap64 (32 * (l0.length : Int))) - 1))) else (none)) else (none)
theorem spec_magDiv.mono_l : ∀ k, (∀ y0 y1 y2 y3 y4, LeO (spec_magDiv.l0 k y0 y1 y2 y3 y4) (spec_magDiv.l0 (k + 1) y0 y1 y2 y3 y4)) ∧ (∀ y0 y1 y2 y3 y4, LeO (spec_magDiv.j1 k y0 y1 y2 y3 y4) (spec_magDiv.j1 (k + 1) y0 y1 y2 y3 y4))
 | 0 => ⟨fun _ _ _ _ _ r h => by simp [spec_magDiv.l0] at h, fun _ _ _ _ _ r h => by simp [spec_magDiv.j1] at h⟩
 | k + 1 => by
  obtain ⟨ih0, ih1⟩ := spec_magDiv.mono_l k
  refine ⟨?_, ?_⟩
  ·intro y0 y1 y2 y3 y4
   unfold spec_magDiv.l0
   repeat' first
   | (with_reducible exact ih0 _ _ _ _ _)
   | (with_reducible exact ih1 _ _ _ _ _)
   | (with_reducible exact spec_magAdd.mono _ _ _)
   | (with_reducible exact spec_magCmp.mono _ _ _)
   | (with_reducible exact spec_magSub.mono _ _ _)
   | (with_reducible exact spec_trim.mono _ _)
   | (with_reducible exact LeO.refl _)
   | (with_reducible exact LeO.none _)
   | (with_reducible refine LeO.ite ?_ ?_)
   | (with_reducible refine LeO.bind ?_ (fun _ => ?_))
   | exact ih0 _ _ _ _ _
   | exact ih1 _ _ _ _ _
   | exact spec_magAdd.mono _ _ _
   | exact spec_magCmp.mono _ _ _
   | exact spec_magSub.mono _ _ _
   | exact spec_trim.mono _ _
   | exact LeO.none _
   | refine LeO.ite ?_ ?_
   | refine LeO.bind ?_ (fun _ => ?_)
  ·intro y0 y1 y2 y3 y4
   unfold spec_magDiv.j1
   repeat' first
   | (with_reducible exact ih0 _ _ _ _ _)
   | (with_reducible exact ih1 _ _ _ _ _)
   | (with_reducible exact spec_magAdd.mono _ _ _)
   | (with_reducible exact spec_magCmp.mono _ _ _)
   | (with_reducible exact spec_magSub.mono _ _ _)
   | (with_reducible exact spec_trim.mono _ _)
   | (with_reducible exact LeO.refl _)
   | (with_reducible exact LeO.none _)
   | (with_reducible refine LeO.ite ?_ ?_)
   | (with_reducible refine LeO.bind ?_ (fun _ => ?_))
   | exact ih0 _ _ _ _ _
   | exact ih1 _ _ _ _ _
   | exact spec_magAdd.mono _ _ _
   | exact spec_magCmp.mono _ _ _
   | exact spec_magSub.mono _ _ _
   | exact spec_trim.mono _ _
   | exact LeO.none _
   | refine LeO.ite ?_ ?_
   | refine LeO.bind ?_ (fun _ => ?_)
theorem spec_magDiv.mono : ∀ a0 a1 k, LeO (spec_magDiv.f k a0 a1) (spec_magDiv.f (k + 1) a0 a1) := by
 intro a0 a1 k
 obtain ⟨ih0, ih1⟩ := spec_magDiv.mono_l k
 unfold spec_magDiv.f
 repeat' first
   | (with_reducible exact ih0 _ _ _ _ _)
   | (with_reducible exact ih1 _ _ _ _ _)
   | (with_reducible exact spec_magAdd.mono _ _ _)
   | (with_reducible exact spec_magCmp.mono _ _ _)
   | (with_reducible exact spec_magSub.mono _ _ _)
   | (with_reducible exact spec_trim.mono _ _)
   | (with_reducible exact LeO.refl _)
   | (with_reducible exact LeO.none _)
   | (with_reducible refine LeO.ite ?_ ?_)
   | (with_reducible refine LeO.bind ?_ (fun _ => ?_))
   | exact ih0 _ _ _ _ _
   | exact ih1 _ _ _ _ _
   | exact spec_magAdd.mono _ _ _
   | exact spec_magCmp.mono _ _ _
   | exact spec_magSub.mono _ _ _
   | exact spec_trim.mono _ _
   | exact LeO.none _
   | refine LeO.ite ?_ ?_
   | refine LeO.bind ?_ (fun _ => ?_)
def spec_magDiv.T11 : Bool × List (List Nat × List Nat) := (true, [([], []), ([], []), ([1], [1]), ([0, 2], [0, 2]), ([3], [3]), ([], []), ([5], [5]), ([6], [6]), ([4, 7], [4, 7]), ([0, 2, 0, 1, 2, 3, 4, 5, 6, 7, 8], [0, 2]), ([9, 8, 0, 1, 2, 3, 4, 5, 6, 7, 8], [8, 9])])
def spec_magDiv.B11 : List Nat := [0, 0, 2, 7, 15, 0, 32, 96, 255, 511, 1023]
theorem spec_magDiv.tab11 : rtab .any (opsOf Tryz.f51 11) = spec_magDiv.T11 := by kernel_rfl
theorem spec_magDiv.bits11 : waitsOk spec_magDiv.T11.2 spec_magDiv.B11 = true := by kernel_rfl
set_option maxHeartbeats 8000000 in
set_option maxRecDepth 100000 in
theorem spec_magDiv.calls (k : Nat) (A0 : Option Addr) (c0 : Nat) (l0 : List Int) (A1 : Option Addr) (c1 : Nat) (l1 : List Int) (r1 : List Int) (r2 : List Int) (w : World) (hr0 : Kd.C (Kd.int .u32) w A0 l0.length l0) (hc0 : l0.length ≤ c0) (hr1 : Kd.C (Kd.int .u32) w A1 l1.length l1) (hc1 : l1.length ≤ c1) (h : spec_magDiv.f k l0 l1 = some (r1, r2)) :
  Calls Tryz.prog 51 #[.slice A0 l0.length c0, .slice A1 l1.length c1] w fun e w' => ∃ v0_ v1_ : Value, e = .returned (.tuple #[v0_, v1_]) ∧ Kd.V (Kd.int .u32) 22 w' w.heap.size (fun k_ => (w.heap.size ≤ k_)) v0_ r1 ∧ Kd.V (Kd.int .u32) 22 w' w.heap.size (fun k_ => (w.heap.size ≤ k_)) v1_ r2 ∧ Below w.heap.size w w' := by
 have HR0 := Aside0.mk hr0
 have HC0 := Aside0.mk hc0
 clear hr0 hc0
 have HR1 := Aside0.mk hr1
 have HC1 := Aside0.mk hc1
 clear hr1 hc1
 have HB := Aside0.mk (Below.refl w.heap.size w)
 have H : (if 0 ≤ (l0.length : Int) then (if ((l0.length : Int) : Int).toNat ≤ 70368744177664 then (spec_magDiv.l0 k l0 l1 (List.replicate ((l0.length : Int) : Int).toNat 0) ([] : List Int) (wrap64 ((wrap64 (32 * (l0.length : Int))) - 1))) else (none)) else (none)) = some (r1, r2) := h
 clear h
 by_cases c3 : 0 ≤ (l0.length : Int)
 ·rw [if_pos c3] at H
  have c3b0 := eq_true c3
  have c3b1 : decide (0 ≤ (l0.length : Int)) = true := decide_eq_true c3
  clear c3
  by_cases c4 : ((l0.length : Int) : Int).toNat ≤ 70368744177664
  ·rw [if_pos c4] at H
   have c4b0 := eq_true c4
   have c4b1 : decide (((l0.length : Int) : Int).toNat ≤ 70368744177664) = true := decide_eq_true c4
   clear c4
   obtain ⟨y295, hy295⟩ : ∃ y_ : List Int, y_ = (List.replicate ((l0.length : Int) : Int).toNat 0) := ⟨_, rfl⟩
   replace H : (spec_magDiv.l0 k l0 l1 y295 ([] : List Int) (wrap64 ((wrap64 (32 * (l0.length : Int))) - 1))) = some (r1, r2) := by first | (rw [hy295]; with_reducible exact H) | (have H2_ := (Option.bind_some _ _).symm.trans H; rw [hy295]; with_reducible exact H2_) | (have H2_ := (Option.bind_some _ _).symm.trans H; with_reducible exact H2_) | with_reducible exact H | (rw [hy295]; exact H) | exact H
   have Ny295 := Aside0.mk hy295
   clear hy295
   have H' := Aside0.mk H
   clear H
   go_enter Tryz.func51, Tryz.ntmps51
   go_wp2_with (first | ((with_reducible refine gate_dst (N := 9) rfl ?_); refine Kd.R_make (Kd.int .u32) _ 22 rfl (N := 9) rfl 25 _ _ rfl (l0.length : Int) rfl rfl Tryz.underlying25 (.int .u32 0) 4 info22 rfl (by decide) (by omega) 0 (ok := fun _ => True) (okp := fun _ => True) rfl (fun _ hk => hk) trivial (of_decide_eq_true (by first | (with_reducible assumption) | assumption)) (Nat.le_trans (Nat.mul_le_mul_right _ (of_decide_eq_true (by first | (with_reducible assumption) | assumption) : (l0.length : Int).toNat ≤ 70368744177664)) (by omega)) (Below.refl _ _) (Nat.le_refl _) ?_; intro v296 w5 ho6 hb hg_ hnew_; clear hg_ hnew_; (first | rw [← Ny295.out] at ho6 | (simp only [Int.reduceToNat] at ho6; rw [← Ny295.out] at ho6)); have n0_ := Aside0.mk (Kd.R_lower (Kd.R_newM (M := fun k_ => (w.heap.size ≤ k_)) ho6 (below_size (by repeat (first | (with_reducible first | exact HB.out | apply below_alloc | apply pw_below_drewN | apply below_drew1) | exact HB.out))) (fun k_ h_ => h_)) (below_size (by repeat (first | (with_reducible first | exact HB.out | apply below_alloc | apply pw_below_drewN | apply below_drew1) | exact HB.out)))); have n1_ := Aside0.mk (below_step (by repeat (first | (with_reducible first | exact HB.out | apply below_alloc | apply pw_below_drewN | apply below_drew1) | exact HB.out)) hb); clear HB; have HO297 := n0_; have HB := n1_; clear n0_ n1_; clear hb ho6))
   go_loopg [5, 6] k (fun kq v5 v6 w' => ∃ (x4_1 : List Int) (x5_1 : List Int) (x6_1 : Int), v6 = .int .i64 x6_1 ∧ Aside0 (spec_magDiv.l0 kq l0 l1 x4_1 x5_1 x6_1 = some (r1, r2)) ∧ Aside0 (kq ≤ k) ∧ Aside0 (Kd.R (Kd.int .u32) 22 w' w.heap.size (fun k_ => (w.heap.size ≤ k_)) v296 x4_1) ∧ Aside0 (Kd.V (Kd.int .u32) 22 w' w.heap.size (fun k_ => (w.heap.size ≤ k_) ∧ some k_ ≠ (v296 : Value).ownBlock) v5 x5_1) ∧ Aside0 (Below w.heap.size w w'))
   case atStart => exact ⟨(y295), (([] : List Int)), (wrap64 ((wrap64 (32 * (l0.length : Int))) - 1)), (by first | rfl | (simp; done) | (simp [*]; done)), H', ⟨Nat.le_refl _⟩, ⟨by (with_reducible repeat (first | apply Kd.R_alloc | apply Kd.R_drewN | apply Kd.R_drew)); exact Kd.R_mono HO297.out (fun _ hk => hk.1)⟩, ⟨Kd.V_nil _ _ _ _ _⟩, ⟨by repeat (first | (with_reducible first | exact HB.out | apply below_alloc | apply pw_below_drewN | apply below_drew1) | exact HB.out)⟩⟩
   case round =>
    clear H'
    try clear c1
    try clear p2
    try clear c3
    try clear c3b0
    try clear c3b1
    try clear c4
    try clear c4b0
    try clear c4b1
    try clear c5
    try clear p6
    obtain ⟨x4_1, x5_1, x6_1, rfl, HA, HK1, HO_4, HO_5, HB⟩ := hrel
    cases gk with
    | zero => exact absurd HA.out (by simp [spec_magDiv.l0])
    | succ k1 =>
     have H := HA.out
     clear HA
     simp only [spec_magDiv.l0] at H
     by_cases c7 : x6_1 ≥ 0
     ·rw [if_pos c7] at H
      have c7b0 : decide (0 ≤ x6_1) = true := decide_eq_true c7
      clear c7
      replace H := Option.bind_eq_some_iff.mp H
      obtain ⟨t301, A80, H⟩ := H
      replace H : (if 0 ≤ (wrap64 (Int.tdiv x6_1 32)) then (if (wrap64 (Int.tdiv x6_1 32)) < (l0.length : Int) then (if 0 ≤ (Int.tmod x6_1 32) then (if (Go.bits .and .u32 (shr .u32 (rd l0 (wrap64 (Int.tdiv x6_1 32))) (Int.tmod x6_1 32)) 1) = 1 then ((spec_magAdd.f k1 t301 (([1] : List Int))).bind fun t308 => (spec_magDiv.j1 k1 l0 l1 x4_1 t308 x6_1)) else (spec_magDiv.j1 k1 l0 l1 x4_1 t301 x6_1)) else (none)) else (none)) else (none)) = some (r1, r2) := H
      have A8 := Aside0.mk A80
      clear A80
      obtain ⟨ji9, hji9⟩ : ∃ j_ : Int, (wrap64 (Int.tdiv x6_1 32)) = j_ := ⟨_, rfl⟩
      replace H : (if 0 ≤ (ji9) then (if (ji9) < (l0.length : Int) then (if 0 ≤ (Int.tmod x6_1 32) then (if (Go.bits .and .u32 (shr .u32 (rd l0 (ji9)) (Int.tmod x6_1 32)) 1) = 1 then ((spec_magAdd.f k1 t301 (([1] : List Int))).bind fun t308 => (spec_magDiv.j1 k1 l0 l1 x4_1 t308 x6_1)) else (spec_magDiv.j1 k1 l0 l1 x4_1 t301 x6_1)) else (none)) else (none)) else (none)) = some (r1, r2) := by first | (rw [hji9] at H; exact H) | (simp only [hji9] at H ⊢; exact H)
      (try rw [hji9] at A8)
      have hji9w : (IntKind.i64.wrap (Int.tdiv x6_1 32)) = ji9 := (i64_w _).trans hji9
      by_cases c10 : 0 ≤ (ji9)
      ·rw [if_pos c10] at H
       have c10b0 : decide (0 ≤ (ji9)) = true := decide_eq_true c10
       clear c10
       by_cases c11 : (ji9) < (l0.length : Int)
       ·rw [if_pos c11] at H
        have c11b0 : decide ((ji9) < (l0.length : Int)) = true := decide_eq_true c11
        clear c11
        obtain ⟨ji12, hji12⟩ : ∃ j_ : Int, (Int.tmod x6_1 32) = j_ := ⟨_, rfl⟩
        replace H : (if 0 ≤ (ji12) then (if (Go.bits .and .u32 (shr .u32 (rd l0 (ji9)) (ji12)) 1) = 1 then ((spec_magAdd.f k1 t301 (([1] : List Int))).bind fun t308 => (spec_magDiv.j1 k1 l0 l1 x4_1 t308 x6_1)) else (spec_magDiv.j1 k1 l0 l1 x4_1 t301 x6_1)) else (none)) = some (r1, r2) := by first | (rw [hji12] at H; exact H) | (simp only [hji12] at H ⊢; exact H)
        (try rw [hji12] at A8)
        by_cases c13 : 0 ≤ (ji12)
        ·rw [if_pos c13] at H
         have c13b0 := eq_true c13
         have c13b1 : decide (0 ≤ (ji12)) = true := decide_eq_true c13
         clear c13
         obtain ⟨ji14, hji14⟩ : ∃ j_ : Int, (shr .u32 (rd l0 (ji9)) (ji12)) = j_ := ⟨_, rfl⟩
         replace H : (if (Go.bits .and .u32 (ji14) 1) = 1 then ((spec_magAdd.f k1 t301 (([1] : List Int))).bind fun t308 => (spec_magDiv.j1 k1 l0 l1 x4_1 t308 x6_1)) else (spec_magDiv.j1 k1 l0 l1 x4_1 t301 x6_1)) = some (r1, r2) := by first | (rw [hji14] at H; exact H) | (simp only [hji14] at H ⊢; exact H)
         (try rw [hji14] at A8)
         have hji14_ : ((rd l0 (ji9)) / 2 ^ min (ji12).toNat 32) = ji14 := hji14
         have hji14z : (ji12) ≤ 32 → ((rd l0 (ji9)) / 2 ^ (ji12).toNat) = ji14 := shr_small hji14
         have HC15 := Aside0.mk H
         clear H
         obtain ⟨Ao16, co16, eo16⟩ := Kd.V_slice HO_5.out
         subst eo16
         go_upto_if 30 with (first | ((with_reducible refine gate_callee (f := 49) rfl ?_); refine goesL_ (some 20) rfl rfl Tryz.func49 (by kernel_rfl) rfl #[.slice Ao16 x5_1.length co16, .slice Ao16 x5_1.length co16] rfl (by (try simp only [List.map_toArray, List.map_cons, List.map_nil]); first | done | rfl | (simp only [List.length_drop, List.length_take]; rfl)) ?_; (with_reducible refine (spec_magAdd.calls k1 _ _ x5_1 _ _ x5_1 t301 _ ?side1 ?side2 ?side3 ?side4 A8.out).mono ?_); (case side1 => repeat (first | exact (Kd.V_reads' HO_5.out).2.2 | (with_reducible refine Kd.C_alloc ?_ _) | (with_reducible refine Kd.C_drewN ?_ _) | (with_reducible refine Kd.C_drew ?_))); (case side2 => exact (Kd.V_reads' HO_5.out).2.1); (case side3 => repeat (first | exact (Kd.V_reads' HO_5.out).2.2 | (with_reducible refine Kd.C_alloc ?_ _) | (with_reducible refine Kd.C_drewN ?_ _) | (with_reducible refine Kd.C_drew ?_))); (case side4 => exact (Kd.V_reads' HO_5.out).2.1); rintro e w17 ⟨v302, rfl, ho0, hb⟩; refine ⟨_, rfl, ?_⟩; have n0_ := Aside0.mk (Kd.R_elder' (by (with_reducible repeat (first | apply Kd.R_alloc | apply Kd.R_drewN | apply Kd.R_drew)); exact HO_4.out) (Kd.R_base ho0) hb); have n1_ := Aside0.mk (Kd.V_elder' (by (with_reducible repeat (first | apply Kd.V_alloc | apply Kd.V_drewN | apply Kd.V_drew)); exact HO_5.out) (Kd.R_base ho0) hb); have n2_ := Aside0.mk (Kd.R_lower (Kd.R_new' (Kd.R_newM (M := fun k_ => (w.heap.size ≤ k_)) ho0 (below_size (by repeat (first | (with_reducible first | exact HB.out | apply below_alloc | apply pw_below_drewN | apply below_drew1) | exact HB.out))) (fun k_ h_ => h_)) (Kd.R_lt (by (with_reducible repeat (first | apply Kd.R_alloc | apply Kd.R_drewN | apply Kd.R_drew)); exact HO_4.out))) (below_size (by repeat (first | (with_reducible first | exact HB.out | apply below_alloc | apply pw_below_drewN | apply below_drew1) | exact HB.out)))); have n3_ := Aside0.mk (below_step (by repeat (first | (with_reducible first | exact HB.out | apply below_alloc | apply pw_below_drewN | apply below_drew1) | exact HB.out)) hb); clear HO_4; clear HO_5; clear HB; have HO_4 := n0_; have HO_5 := n1_; have HO303 := n2_; have HB := n3_; clear n0_ n1_ n2_ n3_; (try clear hb); (try clear hb2); (try clear hk); (try clear hi); (try clear ho0); have p304 : 0 ≤ ((ji9) : Int) := of_decide_eq_true (by first | (with_reducible assumption) | assumption); have q304 : (ji9) < (l0.length : Int) := of_decide_eq_true (by first | (with_reducible assumption) | assumption); obtain ⟨ad304, e304, hx304_0⟩ := Kd.at_int HR0.out (ji9) p304 q304; cases e304; replace hx304_0 := (HB.out.cell (World.block_lt_of_cell? w _ hx304_0)).trans hx304_0; replace p304 := eq_true p304; replace q304 := eq_true q304))
         (try simp only [Act.put, List.setIfInBounds_toArray, List.set_cons_zero, List.set_cons_succ])
         go_cut [5] (fun v5 wc => ∃ (kq : Nat) (x5_14 : List Int), Aside0 (spec_magDiv.j1 kq l0 l1 x4_1 x5_14 x6_1 = some (r1, r2)) ∧ Aside0 (kq ≤ k1) ∧ Aside0 (Kd.R (Kd.int .u32) 22 wc w.heap.size (fun k_ => (w.heap.size ≤ k_) ∧ some k_ ≠ (v5 : Value).ownBlock) v296 x4_1) ∧ Aside0 (Kd.R (Kd.int .u32) 22 wc w.heap.size (fun k_ => (w.heap.size ≤ k_) ∧ some k_ ≠ (v296 : Value).ownBlock) v5 x5_14) ∧ Aside0 (Below w.heap.size w wc))
         case first =>
          have H := HC15.out
          clear HC15
          by_cases c18 : (Go.bits .and .u32 (ji14) 1) = 1
          ·rw [if_pos c18] at H
           have c18b0 : ((Go.bits .and .u32 (ji14) 1) == 1) = true := beq_iff_eq.mpr c18
           have c18b1 : ((Go.bits .and .u32 (ji14) 1) != 1) = false := bne_eq_false_iff_eq.mpr c18
           clear c18
           (first | rw [c18b0] | (simp only [i64_w, i32_w]; rw [c18b0]) | skip)
           obtain ⟨y305, hy305⟩ : ∃ y_ : List Int, y_ = (([1] : List Int)) := ⟨_, rfl⟩
           replace H : ((spec_magAdd.f k1 t301 y305).bind fun t308 => (spec_magDiv.j1 k1 l0 l1 x4_1 t308 x6_1)) = some (r1, r2) := by first | (rw [hy305]; with_reducible exact H) | (have H2_ := (Option.bind_some _ _).symm.trans H; rw [hy305]; with_reducible exact H2_) | (have H2_ := (Option.bind_some _ _).symm.trans H; with_reducible exact H2_) | with_reducible exact H | (rw [hy305]; exact H) | exact H
           have Ny305 := Aside0.mk hy305
           clear hy305
           replace H := Option.bind_eq_some_iff.mp H
           obtain ⟨t308, A190, H⟩ := H
           replace H : (spec_magDiv.j1 k1 l0 l1 x4_1 t308 x6_1) = some (r1, r2) := H
           have A19 := Aside0.mk A190
           clear A190
           have H' := Aside0.mk H
           clear H
           go_wp2_with (first | ((with_reducible refine gate_dst (N := 32) rfl ?_); refine Kd.R_lit (Kd.int .u32) _ 22 ?hg (N := 32) ?hd (xs := ([1] : List Int)) (inner := [.int .u32 1]) (ok := fun _ => True) (okp := fun _ => True) ?hr ?hp (fun _ hk => hk) trivial (Below.refl _ _) (Nat.le_refl _) (by simp) ?_; (case hd => rfl); (case hg => rfl); (case hr => first | (go_simp; done) | (go_simp; rfl)); (case hp => exact (Reps.one (show Kd.M (Kd.int .u32) _ _ _ 1 [.int .u32 1] from rfl) (Reps.none _ _))); intro v306 w20 ho21 hb hg_ hnew_; clear hg_ hnew_; (first | rw [← Ny305.out] at ho21 | (simp only [Int.reduceToNat] at ho21; rw [← Ny305.out] at ho21)); have n0_ := Aside0.mk (Kd.R_elder' (by (with_reducible repeat (first | apply Kd.R_alloc | apply Kd.R_drewN | apply Kd.R_drew)); exact HO_4.out) (Kd.R_base ho21) hb); have n1_ := Aside0.mk (Kd.V_elder' (by (with_reducible repeat (first | apply Kd.V_alloc | apply Kd.V_drewN | apply Kd.V_drew)); exact HO_5.out) (Kd.R_base ho21) hb); have n2_ := Aside0.mk (Kd.R_elder' (by (with_reducible repeat (first | apply Kd.R_alloc | apply Kd.R_drewN | apply Kd.R_drew)); exact HO303.out) (Kd.R_base ho21) hb); have n3_ := Aside0.mk (Kd.R_lower (Kd.R_new' (Kd.R_new' (Kd.R_newM (M := fun k_ => (w.heap.size ≤ k_)) ho21 (below_size (by repeat (first | (with_reducible first | exact HB.out | apply below_alloc | apply pw_below_drewN | apply below_drew1) | exact HB.out))) (fun k_ h_ => h_)) (Kd.R_lt (by (with_reducible repeat (first | apply Kd.R_alloc | apply Kd.R_drewN | apply Kd.R_drew)); exact HO_4.out))) (Kd.R_lt (by (with_reducible repeat (first | apply Kd.R_alloc | apply Kd.R_drewN | apply Kd.R_drew)); exact HO303.out))) (below_size (by repeat (first | (with_reducible first | exact HB.out | apply below_alloc | apply pw_below_drewN | apply below_drew1) | exact HB.out)))); have n4_ := Aside0.mk (below_step (by repeat (first | (with_reducible first | exact HB.out | apply below_alloc | apply pw_below_drewN | apply below_drew1) | exact HB.out)) hb); clear HO_4; clear HO_5; clear HO303; clear HB; have HO_4 := n0_; have HO_5 := n1_; have HO303 := n2_; have HO307 := n3_; have HB := n4_; clear n0_ n1_ n2_ n3_ n4_; clear hb ho21; obtain ⟨Ao22, co22, eo22⟩ := Kd.R_slice HO303.out; subst eo22; obtain ⟨Ao23, co23, eo23⟩ := Kd.R_slice HO307.out; subst eo23) | ((with_reducible refine gate_callee (f := 49) rfl ?_); refine goesL_ (some 33) rfl rfl Tryz.func49 (by kernel_rfl) rfl #[.slice Ao22 t301.length co22, .slice Ao23 y305.length co23] rfl (by (try simp only [List.map_toArray, List.map_cons, List.map_nil]); first | done | rfl | (simp only [List.length_drop, List.length_take]; rfl)) ?_; (with_reducible refine (spec_magAdd.calls k1 _ _ t301 _ _ y305 t308 _ ?side1 ?side2 ?side3 ?side4 A19.out).mono ?_); (case side1 => repeat (first | exact (Kd.R_reads' HO303.out).2.2 | (with_reducible refine Kd.C_alloc ?_ _) | (with_reducible refine Kd.C_drewN ?_ _) | (with_reducible refine Kd.C_drew ?_))); (case side2 => exact (Kd.R_reads' HO303.out).2.1); (case side3 => repeat (first | exact (Kd.R_reads' HO307.out).2.2 | (with_reducible refine Kd.C_alloc ?_ _) | (with_reducible refine Kd.C_drewN ?_ _) | (with_reducible refine Kd.C_drew ?_))); (case side4 => exact (Kd.R_reads' HO307.out).2.1); rintro e w24 ⟨v309, rfl, ho0, hb⟩; refine ⟨_, rfl, ?_⟩; have n0_ := Aside0.mk (Kd.R_elder' (by (with_reducible repeat (first | apply Kd.R_alloc | apply Kd.R_drewN | apply Kd.R_drew)); exact HO_4.out) (Kd.R_base ho0) hb); have n1_ := Aside0.mk (Kd.V_elder' (by (with_reducible repeat (first | apply Kd.V_alloc | apply Kd.V_drewN | apply Kd.V_drew)); exact HO_5.out) (Kd.R_base ho0) hb); have n2_ := Aside0.mk (Kd.R_elder' (by (with_reducible repeat (first | apply Kd.R_alloc | apply Kd.R_drewN | apply Kd.R_drew)); exact HO303.out) (Kd.R_base ho0) hb); have n3_ := Aside0.mk (Kd.R_elder' (by (with_reducible repeat (first | apply Kd.R_alloc | apply Kd.R_drewN | apply Kd.R_drew)); exact HO307.out) (Kd.R_base ho0) hb); have n4_ := Aside0.mk (Kd.R_lower (Kd.R_new' (Kd.R_new' (Kd.R_new' (Kd.R_newM (M := fun k_ => (w.heap.size ≤ k_)) ho0 (below_size (by repeat (first | (with_reducible first | exact HB.out | apply below_alloc | apply pw_below_drewN | apply below_drew1) | exact HB.out))) (fun k_ h_ => h_)) (Kd.R_lt (by (with_reducible repeat (first | apply Kd.R_alloc | apply Kd.R_drewN | apply Kd.R_drew)); exact HO_4.out))) (Kd.R_lt (by (with_reducible repeat (first | apply Kd.R_alloc | apply Kd.R_drewN | apply Kd.R_drew)); exact HO303.out))) (Kd.R_lt (by (with_reducible repeat (first | apply Kd.R_alloc | apply Kd.R_drewN | apply Kd.R_drew)); exact HO307.out))) (below_size (by repeat (first | (with_reducible first | exact HB.out | apply below_alloc | apply pw_below_drewN | apply below_drew1) | exact HB.out)))); have n5_ := Aside0.mk (below_step (by repeat (first | (with_reducible first | exact HB.out | apply below_alloc | apply pw_below_drewN | apply below_drew1) | exact HB.out)) hb); clear HO_4; clear HO_5; clear HO303; clear HO307; clear HB; have HO_4 := n0_; have HO_5 := n1_; have HO303 := n2_; have HO307 := n3_; have HO310 := n4_; have HB := n5_; clear n0_ n1_ n2_ n3_ n4_ n5_; (try clear hb); (try clear hb2); (try clear hk); (try clear hi); (try clear ho0)))
           go_meet
           case rel => exact ⟨_, (t308), H', ⟨by have := HK1.out; first | omega | exact Nat.le_refl _⟩, ⟨by (with_reducible repeat (first | apply Kd.R_alloc | apply Kd.R_drewN | apply Kd.R_drew)); exact Kd.R_mono HO_4.out (fun _ hk => ⟨hk.1.1.1, hk.2⟩)⟩, ⟨by (with_reducible repeat (first | apply Kd.R_alloc | apply Kd.R_drewN | apply Kd.R_drew)); exact Kd.R_mono HO310.out (fun _ hk => ⟨hk.1.1.1.1, hk.1.1.2⟩)⟩, ⟨by repeat (first | (with_reducible first | exact HB.out | apply below_alloc | apply pw_below_drewN | apply below_drew1) | exact HB.out)⟩⟩
          ·rw [if_neg c18] at H
           have c18b0 : ((Go.bits .and .u32 (ji14) 1) == 1) = false := beq_eq_false_iff_ne.mpr c18
           have c18b1 : ((Go.bits .and .u32 (ji14) 1) != 1) = true := bne_iff_ne.mpr c18
           (first | rw [c18b0] | (simp only [i64_w, i32_w]; rw [c18b0]) | skip)
           have H' := Aside0.mk H
           clear H
           go_wp2
           go_meet
           case rel => exact ⟨_, (t301), H', ⟨by have := HK1.out; first | omega | exact Nat.le_refl _⟩, ⟨by (with_reducible repeat (first | apply Kd.R_alloc | apply Kd.R_drewN | apply Kd.R_drew)); exact HO_4.out⟩, ⟨by (with_reducible repeat (first | apply Kd.R_alloc | apply Kd.R_drewN | apply Kd.R_drew)); exact Kd.R_mono HO303.out (fun _ hk => ⟨hk.1.1, hk.2⟩)⟩, ⟨by repeat (first | (with_reducible first | exact HB.out | apply below_alloc | apply pw_below_drewN | apply below_drew1) | exact HB.out)⟩⟩
         case rest =>
          clear HC15
          try clear c1
          try clear p2
          try clear c3
          try clear c3b0
          try clear c3b1
          try clear p3
          try clear q3
          try clear hx3
          try clear c4
          try clear c4b0
          try clear c4b1
          try clear c5
          try clear p6
          try clear c7
          try clear c7b0
          try clear c10
          try clear c10b0
          try clear c11
          try clear c11b0
          try clear c13
          try clear c13b0
          try clear c13b1
          try clear c18
          try clear c18b0
          try clear c18b1
          try clear hx304_0
          try clear p2
          try clear p304
          try clear p6
          try clear q304
          obtain ⟨kq, x5_14, HA, HJ14, HO_4, HO_5, HB⟩ := hcut
          cases kq with
          | zero => exact absurd HA.out (by simp [spec_magDiv.j1])
          | succ kj14 =>
           have H := HA.out
           clear HA
           simp only [spec_magDiv.j1] at H
           replace H := Option.bind_eq_some_iff.mp H
           obtain ⟨t311, A250, H⟩ := H
           replace H : ((spec_magCmp.f kj14 t311 l1).bind fun t314 => (if t314 ≥ 0 then ((spec_magSub.f kj14 t311 l1).bind fun t315 => (if 0 ≤ (wrap64 (Int.tdiv x6_1 32)) then (if (wrap64 (Int.tdiv x6_1 32)) < (x4_1.length : Int) then (if 0 ≤ (Int.tmod x6_1 32) then (spec_magDiv.l0 kj14 l0 l1 (x4_1.set ((wrap64 (Int.tdiv x6_1 32)) : Int).toNat (Go.bits .or .u32 (rd x4_1 (wrap64 (Int.tdiv x6_1 32))) (shl .u32 1 (Int.tmod x6_1 32)))) t315 (wrap64 (x6_1 - 1))) else (none)) else (none)) else (none))) else (spec_magDiv.l0 kj14 l0 l1 x4_1 t311 (wrap64 (x6_1 - 1))))) = some (r1, r2) := H
           have A25 := Aside0.mk A250
           clear A250
           replace H := Option.bind_eq_some_iff.mp H
           obtain ⟨t314, A260, H⟩ := H
           replace H : (if t314 ≥ 0 then ((spec_magSub.f kj14 t311 l1).bind fun t315 => (if 0 ≤ (wrap64 (Int.tdiv x6_1 32)) then (if (wrap64 (Int.tdiv x6_1 32)) < (x4_1.length : Int) then (if 0 ≤ (Int.tmod x6_1 32) then (spec_magDiv.l0 kj14 l0 l1 (x4_1.set ((wrap64 (Int.tdiv x6_1 32)) : Int).toNat (Go.bits .or .u32 (rd x4_1 (wrap64 (Int.tdiv x6_1 32))) (shl .u32 1 (Int.tmod x6_1 32)))) t315 (wrap64 (x6_1 - 1))) else (none)) else (none)) else (none))) else (spec_magDiv.l0 kj14 l0 l1 x4_1 t311 (wrap64 (x6_1 - 1)))) = some (r1, r2) := H
           have A26 := Aside0.mk A260
           clear A260
           by_cases c27 : t314 ≥ 0
           ·rw [if_pos c27] at H
            have c27b0 : decide (0 ≤ t314) = true := decide_eq_true c27
            clear c27
            replace H := Option.bind_eq_some_iff.mp H
            obtain ⟨t315, A280, H⟩ := H
            replace H : (if 0 ≤ (wrap64 (Int.tdiv x6_1 32)) then (if (wrap64 (Int.tdiv x6_1 32)) < (x4_1.length : Int) then (if 0 ≤ (Int.tmod x6_1 32) then (spec_magDiv.l0 kj14 l0 l1 (x4_1.set ((wrap64 (Int.tdiv x6_1 32)) : Int).toNat (Go.bits .or .u32 (rd x4_1 (wrap64 (Int.tdiv x6_1 32))) (shl .u32 1 (Int.tmod x6_1 32)))) t315 (wrap64 (x6_1 - 1))) else (none)) else (none)) else (none)) = some (r1, r2) := H
            have A28 := Aside0.mk A280
            clear A280
            obtain ⟨ji29, hji29⟩ : ∃ j_ : Int, (wrap64 (Int.tdiv x6_1 32)) = j_ := ⟨_, rfl⟩
            replace H : (if 0 ≤ (ji29) then (if (ji29) < (x4_1.length : Int) then (if 0 ≤ (Int.tmod x6_1 32) then (spec_magDiv.l0 kj14 l0 l1 (x4_1.set ((ji29) : Int).toNat (Go.bits .or .u32 (rd x4_1 (ji29)) (shl .u32 1 (Int.tmod x6_1 32)))) t315 (wrap64 (x6_1 - 1))) else (none)) else (none)) else (none)) = some (r1, r2) := by first | (rw [hji29] at H; exact H) | (simp only [hji29] at H ⊢; exact H)
            (try rw [hji29] at A25)
            (try rw [hji29] at A26)
            (try rw [hji29] at A28)
            have hji29w : (IntKind.i64.wrap (Int.tdiv x6_1 32)) = ji29 := (i64_w _).trans hji29
            have e_ji29 : ji29 = ji9 := hji29.symm.trans hji9
            subst e_ji29
            by_cases c30 : 0 ≤ (ji29)
            ·rw [if_pos c30] at H
             have c30b0 : decide (0 ≤ (ji29)) = true := decide_eq_true c30
             clear c30
             by_cases c31 : (ji29) < (x4_1.length : Int)
             ·rw [if_pos c31] at H
              have c31b0 : decide ((ji29) < (x4_1.length : Int)) = true := decide_eq_true c31
              clear c31
              obtain ⟨ji32, hji32⟩ : ∃ j_ : Int, (Int.tmod x6_1 32) = j_ := ⟨_, rfl⟩
              replace H : (if 0 ≤ (ji32) then (spec_magDiv.l0 kj14 l0 l1 (x4_1.set ((ji29) : Int).toNat (Go.bits .or .u32 (rd x4_1 (ji29)) (shl .u32 1 (ji32)))) t315 (wrap64 (x6_1 - 1))) else (none)) = some (r1, r2) := by first | (rw [hji32] at H; exact H) | (simp only [hji32] at H ⊢; exact H)
              have e_ji32 : ji32 = ji12 := hji32.symm.trans hji12
              subst e_ji32
              (try rw [hji32] at A25)
              (try rw [hji32] at A26)
              (try rw [hji32] at A28)
              by_cases c33 : 0 ≤ (ji32)
              ·rw [if_pos c33] at H
               have c33b0 := eq_true c33
               have c33b1 : decide (0 ≤ (ji32)) = true := decide_eq_true c33
               clear c33
               obtain ⟨ji34, hji34⟩ : ∃ j_ : Int, (shl .u32 1 (ji32)) = j_ := ⟨_, rfl⟩
               replace H : (spec_magDiv.l0 kj14 l0 l1 (x4_1.set ((ji29) : Int).toNat (Go.bits .or .u32 (rd x4_1 (ji29)) (ji34))) t315 (wrap64 (x6_1 - 1))) = some (r1, r2) := by first | (rw [hji34] at H; exact H) | (simp only [hji34] at H ⊢; exact H)
               (try rw [hji34] at A25)
               (try rw [hji34] at A26)
               (try rw [hji34] at A28)
               have hji34_ : (IntKind.u32.wrap (1 * 2 ^ min (ji32).toNat 32)) = ji34 := hji34
               have hji34z : (ji32) ≤ 32 → (IntKind.u32.wrap (1 * 2 ^ (ji32).toNat)) = ji34 := shl_small hji34
               have hji34u : (IntKind.u32.wrap (2 ^ min (ji32).toNat 32)) = ji34 := by have h_ := hji34_; rw [Int.one_mul] at h_; exact h_
               have hji34v : (ji32) ≤ 32 → (IntKind.u32.wrap (2 ^ (ji32).toNat)) = ji34 := fun hle_ => by have h_ := hji34z hle_; rw [Int.one_mul] at h_; exact h_
               obtain ⟨y319, hy319⟩ : ∃ y_ : List Int, y_ = (x4_1.set ((ji29) : Int).toNat (Go.bits .or .u32 (rd x4_1 (ji29)) (ji34))) := ⟨_, rfl⟩
               replace H : (spec_magDiv.l0 kj14 l0 l1 y319 t315 (wrap64 (x6_1 - 1))) = some (r1, r2) := by first | (rw [hy319]; with_reducible exact H) | (have H2_ := (Option.bind_some _ _).symm.trans H; rw [hy319]; with_reducible exact H2_) | (have H2_ := (Option.bind_some _ _).symm.trans H; with_reducible exact H2_) | with_reducible exact H | (rw [hy319]; exact H) | exact H
               have Ny319 := Aside0.mk hy319
               clear hy319
               have H' := Aside0.mk H
               clear H
               obtain ⟨Ao36, co36, eo36⟩ := Kd.R_slice HO_5.out
               subst eo36
               try go_wp2_with (first | ((with_reducible refine gate_callee (f := 48) rfl ?_); refine goesL_ (some 35) rfl rfl Tryz.func48 (by kernel_rfl) rfl #[.slice Ao36 x5_14.length co36] rfl (by (try simp only [List.map_toArray, List.map_cons, List.map_nil]); first | done | rfl | (simp only [List.length_drop, List.length_take]; rfl)) ?_; (with_reducible refine (spec_trim.calls kj14 (fun k_ => some k_ = (.slice Ao36 x5_14.length co36 : Value).ownBlock) _ _ x5_14 t311 _ ?side1 A25.out).mono ?_); (case side1 => exact Kd.R_V (Kd.R_tight rfl (HO_5.out))); rintro e w37 ⟨v312, rfl, ho0, hb⟩; refine ⟨_, rfl, ?_⟩; have n0_ := Aside0.mk (Kd.R_below (by (with_reducible repeat (first | apply Kd.R_alloc | apply Kd.R_drewN | apply Kd.R_drew)); exact HO_4.out) hb); have n1_ := Aside0.mk (Kd.R_below (by (with_reducible repeat (first | apply Kd.R_alloc | apply Kd.R_drewN | apply Kd.R_drew)); exact HO_5.out) hb); have n2_ := Aside0.mk (Kd.V_lower (Kd.V_mono (ok' := fun k_ => (w.heap.size ≤ k_) ∧ some k_ ≠ (v296 : Value).ownBlock) ho0 (fun k_ hk_ => ⟨Or.elim hk_ (fun hs_ => ((HO_5.out).1 k_ hs_.symm).1) (fun hn_ => (Nat.le_trans (below_size (by repeat (first | (with_reducible first | exact HB.out | apply below_alloc | apply pw_below_drewN | apply below_drew1) | exact HB.out))) hn_)), Or.elim hk_ (fun hs_ => ((HO_5.out).1 k_ hs_.symm).2) (fun hn_ => (Kd.fresh' (Kd.R_lt (by (with_reducible repeat (first | apply Kd.R_alloc | apply Kd.R_drewN | apply Kd.R_drew)); exact HO_4.out)) k_ hn_))⟩)) (below_size (by repeat (first | (with_reducible first | exact HB.out | apply below_alloc | apply pw_below_drewN | apply below_drew1) | exact HB.out)))); have n3_ := Aside0.mk (below_step (by repeat (first | (with_reducible first | exact HB.out | apply below_alloc | apply pw_below_drewN | apply below_drew1) | exact HB.out)) hb); clear HO_4; clear HO_5; clear HB; have HO_4 := n0_; have HO_5 := n1_; have HO313 := n2_; have HB := n3_; clear n0_ n1_ n2_ n3_; (try clear hb); (try clear hb2); (try clear hk); (try clear hi); (try clear ho0); obtain ⟨Ao38, co38, eo38⟩ := Kd.V_slice HO313.out; subst eo38) | ((with_reducible refine gate_callee (f := 27) rfl ?_); refine goesL_ (some 38) rfl rfl Tryz.func27 (by kernel_rfl) rfl #[.slice Ao38 t311.length co38, .slice A1 l1.length c1] rfl (by (try simp only [List.map_toArray, List.map_cons, List.map_nil]); first | done | rfl | (simp only [List.length_drop, List.length_take]; rfl)) ?_; (with_reducible refine (spec_magCmp.calls kj14 _ _ t311 _ _ l1 t314 _ ?side1 ?side2 ?side3 ?side4 A26.out).mono ?_); (case side1 => repeat (first | exact (Kd.V_reads' HO313.out).2.2 | (with_reducible refine Kd.C_alloc ?_ _) | (with_reducible refine Kd.C_drewN ?_ _) | (with_reducible refine Kd.C_drew ?_))); (case side2 => exact (Kd.V_reads' HO313.out).2.1); (case side3 => repeat (first | exact (Kd.C_below HR1.out HB.out) | (with_reducible refine Kd.C_alloc ?_ _) | (with_reducible refine Kd.C_drewN ?_ _) | (with_reducible refine Kd.C_drew ?_))); (case side4 => exact HC1.out); rintro e w' ⟨rfl, ⟨nd, rfl⟩⟩; refine ⟨_, rfl, ?_⟩; (try (rw [drewN_self w37]; generalize hq_ : World.drewN w37 _ = w37; have n0_ : Aside0 (Kd.V (Kd.int .u32) 22 w37 w.heap.size (fun k_ => (w.heap.size ≤ k_) ∧ some k_ ≠ (v296 : Value).ownBlock) (.slice Ao38 t311.length co38) t311) := ⟨by rw [← hq_]; exact (by (with_reducible repeat (first | apply Kd.V_alloc | apply Kd.V_drewN | apply Kd.V_drew)); exact HO313.out)⟩; have n1_ : Aside0 (Kd.R (Kd.int .u32) 22 w37 w.heap.size (fun k_ => (w.heap.size ≤ k_) ∧ some k_ ≠ (.slice Ao36 x5_14.length co36 : Value).ownBlock) v296 x4_1) := ⟨by rw [← hq_]; exact (by (with_reducible repeat (first | apply Kd.R_alloc | apply Kd.R_drewN | apply Kd.R_drew)); exact HO_4.out)⟩; have n2_ : Aside0 (Kd.R (Kd.int .u32) 22 w37 w.heap.size (fun k_ => (w.heap.size ≤ k_) ∧ some k_ ≠ (v296 : Value).ownBlock) (.slice Ao36 x5_14.length co36) x5_14) := ⟨by rw [← hq_]; exact (by (with_reducible repeat (first | apply Kd.R_alloc | apply Kd.R_drewN | apply Kd.R_drew)); exact HO_5.out)⟩; have n3_ : Aside0 (Below w.heap.size w w37) := ⟨by rw [← hq_]; exact (by repeat (first | (with_reducible first | exact HB.out | apply below_alloc | apply pw_below_drewN | apply below_drew1) | exact HB.out))⟩; clear HO313 HO_4 HO_5 HB hq_; have HO313 := n0_; have HO_4 := n1_; have HO_5 := n2_; have HB := n3_; clear n0_ n1_ n2_ n3_))) | ((with_reducible refine gate_callee (f := 50) rfl ?_); refine goesL_ (some 42) rfl rfl Tryz.func50 (by kernel_rfl) rfl #[.slice Ao38 t311.length co38, .slice A1 l1.length c1] rfl (by (try simp only [List.map_toArray, List.map_cons, List.map_nil]); first | done | rfl | (simp only [List.length_drop, List.length_take]; rfl)) ?_; (with_reducible refine (spec_magSub.calls kj14 _ _ t311 _ _ l1 t315 _ ?side1 ?side2 ?side3 ?side4 A28.out).mono ?_); (case side1 => repeat (first | exact (Kd.V_reads' HO313.out).2.2 | (with_reducible refine Kd.C_alloc ?_ _) | (with_reducible refine Kd.C_drewN ?_ _) | (with_reducible refine Kd.C_drew ?_))); (case side2 => exact (Kd.V_reads' HO313.out).2.1); (case side3 => repeat (first | exact (Kd.C_below HR1.out HB.out) | (with_reducible refine Kd.C_alloc ?_ _) | (with_reducible refine Kd.C_drewN ?_ _) | (with_reducible refine Kd.C_drew ?_))); (case side4 => exact HC1.out); rintro e w39 ⟨v316, rfl, ho0, hb⟩; refine ⟨_, rfl, ?_⟩; have n0_ := Aside0.mk (Kd.R_below (by (with_reducible repeat (first | apply Kd.R_alloc | apply Kd.R_drewN | apply Kd.R_drew)); exact HO_4.out) hb); have n1_ := Aside0.mk (Kd.R_below (by (with_reducible repeat (first | apply Kd.R_alloc | apply Kd.R_drewN | apply Kd.R_drew)); exact HO_5.out) hb); have n2_ := Aside0.mk (Kd.V_below (by (with_reducible repeat (first | apply Kd.V_alloc | apply Kd.V_drewN | apply Kd.V_drew)); exact HO313.out) hb); have n3_ := Aside0.mk (Kd.V_lower (Kd.V_mono (ok' := fun k_ => (w.heap.size ≤ k_) ∧ some k_ ≠ (v296 : Value).ownBlock ∧ some k_ ≠ (.slice Ao36 x5_14.length co36 : Value).ownBlock) ho0 (fun k_ hk_ => ⟨(Nat.le_trans (below_size (by repeat (first | (with_reducible first | exact HB.out | apply below_alloc | apply pw_below_drewN | apply below_drew1) | exact HB.out))) hk_), (Kd.fresh' (Kd.R_lt (by (with_reducible repeat (first | apply Kd.R_alloc | apply Kd.R_drewN | apply Kd.R_drew)); exact HO_4.out)) k_ hk_), (Kd.fresh' (Kd.R_lt (by (with_reducible repeat (first | apply Kd.R_alloc | apply Kd.R_drewN | apply Kd.R_drew)); exact HO_5.out)) k_ hk_)⟩)) (below_size (by repeat (first | (with_reducible first | exact HB.out | apply below_alloc | apply pw_below_drewN | apply below_drew1) | exact HB.out)))); have n4_ := Aside0.mk (below_step (by repeat (first | (with_reducible first | exact HB.out | apply below_alloc | apply pw_below_drewN | apply below_drew1) | exact HB.out)) hb); clear HO_4; clear HO_5; clear HO313; clear HB; have HO_4 := n0_; have HO_5 := n1_; have HO313 := n2_; have HO317 := n3_; have HB := n4_; clear n0_ n1_ n2_ n3_ n4_; (try clear hb); (try clear hb2); (try clear hk); (try clear hi); (try clear ho0)))
               have n0_ := Aside0.mk (Kd.R_drew HO_4.out)
               have n1_ := Aside0.mk (Kd.R_drew HO_5.out)
               have n2_ := Aside0.mk (Kd.V_drew HO313.out)
               have n3_ := Aside0.mk (Kd.V_drew HO317.out)
               have n4_ := Aside0.mk (below_drew1 HB.out)
               clear HO_4 HO_5 HO313 HO317 HB
               have HO_4 := n0_
               have HO_5 := n1_
               have HO313 := n2_
               have HO317 := n3_
               have HB := n4_
               clear n0_ n1_ n2_ n3_ n4_
               obtain ⟨Ao41, co41, eo41⟩ := Kd.R_slice HO_4.out
               (first | subst eo41 | (injection eo41 with f1_ f2_ f3_; have f4_ := f1_.symm; have f5_ := f3_.symm; clear f1_ f2_ f3_; subst f4_; subst f5_))
               have p318 : 0 ≤ ((ji29) : Int) := of_decide_eq_true (by first | (with_reducible assumption) | assumption)
               have q318 : (ji29) < (x4_1.length : Int) := of_decide_eq_true (by first | (with_reducible assumption) | assumption)
               obtain ⟨ad318, e318, hx318_0⟩ := Kd.at_int (Kd.R_reads' HO_4.out).2.2 (ji29) p318 q318
               cases e318
               replace p318 := eq_true p318
               replace q318 := eq_true q318
               have p35 : 0 ≤ ((ji29) : Int) := of_decide_eq_true (by first | (with_reducible assumption) | assumption)
               have q35 : ((ji29) : Int) < ((x4_1.length : Int) : Int) := of_decide_eq_true (by first | (with_reducible assumption) | assumption)
               obtain ⟨go35, co35, eo35, gb35, gl35, cl35, HG35⟩ := Kd.R_form HO_4.out (by omega)
               (first | cases eo35 | (injection eo35 with ea_ en_ ec_; (first | subst ea_ | (injection ea_ with ea_; subst ea_)); subst ec_; clear en_))
               have GB35 := Aside0.mk gb35
               have GG35 := Aside0.mk HG35
               clear gb35 gl35 HG35
               (first | simp only [add_plain] at hx318_0 | skip)
               obtain ⟨hx35_0, hf35_0⟩ := Kd.R_celln 0 HO_4.out ((ji29) : Int) p35 q35
               replace p35 := eq_true p35
               replace q35 := eq_true q35
               have HP42 := Kd.R_putn HO_4.out ((ji29) : Int) (Go.bits .or .u32 (rd x4_1 (ji29)) (ji34))
               rw [← Ny319.out] at HP42
               have HQ42 := Aside0.mk HP42
               clear HP42
               refine start_ (n := 11) (S := fun w' => w'.cell? ⟨go35, ((ji29)).toNat, none⟩ = some (.int .u32 (rd x4_1 (ji29)))) (ds := [10]) #[false, false, false, false, false, false, false, false, false, false, false] (by kernel_rfl) rfl rfl (hx318_0) (fun hHeld => ?_); refine with_tabW spec_magDiv.tab11 spec_magDiv.bits11 (fun HT_ HW_ => ?_)
               generalize w39.drew = w40 at HO_4 HO_5 HO313 HO317 HB GG35 HQ42 hf35_0 hx318_0 hx35_0 hHeld ⊢
               refine pure_ (i := 0) (N := some 43) (v := ?_) (a' := ?_) #[true, false, false, false, false, false, false, false, false, false, false] rfl rfl (any_of HT_.out (by kernel_rfl)) (fun _ _ _ h => h) (Or.inl ⟨by rfl, ?_⟩) ?_ ?_
               rotate_left
               ·intro w'
                go_simp
                with_reducible rfl
               rotate_left
               ·simp only [Act.put, List.setIfInBounds_toArray, List.set_cons_zero, List.set_cons_succ, i64_w, i32_w]
                rfl
               refine pure_ (i := 1) (N := some 44) (v := ?_) (a' := ?_) #[true, true, false, false, false, false, false, false, false, false, false] rfl rfl (any_of HT_.out (by kernel_rfl)) (fun _ _ _ h => h) (Or.inl ⟨by rfl, ?_⟩) ?_ ?_
               rotate_left
               ·intro w'
                go_simp
                with_reducible rfl
               rotate_left
               ·simp only [Act.put, List.setIfInBounds_toArray, List.set_cons_zero, List.set_cons_succ, i64_w, i32_w]
                rfl
               refine pure_ (i := 2) (N := some 45) (v := ?_) (a' := ?_) #[true, true, true, false, false, false, false, false, false, false, false] rfl rfl (any_of HT_.out (by kernel_rfl)) (fun _ _ _ h => h) (Or.inl ⟨by rfl, ?_⟩) ?_ ?_
               rotate_left
               ·intro w'
                go_simp
                with_reducible rfl
               rotate_left
               ·simp only [Act.put, List.setIfInBounds_toArray, List.set_cons_zero, List.set_cons_succ, i64_w, i32_w]
                rfl
               refine pure_ (i := 3) (N := some 46) (v := ?_) (a' := ?_) #[true, true, true, true, false, false, false, false, false, false, false] rfl rfl (any_of HT_.out (by kernel_rfl)) (fun _ _ _ h => h) (Or.inl ⟨by rfl, ?_⟩) ?_ ?_
               rotate_left
               ·intro w'
                go_simp
                with_reducible rfl
               rotate_left
               ·simp only [Act.put, List.setIfInBounds_toArray, List.set_cons_zero, List.set_cons_succ, i64_w, i32_w]
                rfl
               refine pure_ (i := 5) (N := some 48) (v := ?_) (a' := ?_) #[true, true, true, true, false, true, false, false, false, false, false] rfl rfl (any_of HT_.out (by kernel_rfl)) (fun _ _ _ h => h) (Or.inl ⟨by rfl, ?_⟩) ?_ ?_
               rotate_left
               ·intro w'
                go_simp
                with_reducible rfl
               rotate_left
               ·simp only [Act.put, List.setIfInBounds_toArray, List.set_cons_zero, List.set_cons_succ, i64_w, i32_w]
                rfl
               refine pure_ (i := 6) (N := some 49) (v := ?_) (a' := ?_) #[true, true, true, true, false, true, true, false, false, false, false] rfl rfl (any_of HT_.out (by kernel_rfl)) (fun _ _ _ h => h) (Or.inl ⟨by rfl, ?_⟩) ?_ ?_
               rotate_left
               ·intro w'
                go_simp
                with_reducible rfl
               rotate_left
               ·simp only [Act.put, List.setIfInBounds_toArray, List.set_cons_zero, List.set_cons_succ, i64_w, i32_w]
                rfl
               refine pure_ (i := 7) (N := some 50) (v := ?_) (a' := ?_) #[true, true, true, true, false, true, true, true, false, false, false] rfl rfl (any_of HT_.out (by kernel_rfl)) (fun _ _ _ h => h) (Or.inl ⟨by rfl, ?_⟩) ?_ ?_
               rotate_left
               ·intro w'
                go_simp
                with_reducible rfl
               rotate_left
               ·simp only [Act.put, List.setIfInBounds_toArray, List.set_cons_zero, List.set_cons_succ, i64_w, i32_w]
                rfl
               refine take_ (i := 4) (N := some 47) (v := ?_) (a' := ?_) #[true, true, true, true, true, true, true, true, false, false, false] rfl rfl (take_ofW HT_.out HW_.out (by kernel_rfl)) (fun _ _ _ h => h) (Or.inl ⟨by rfl, ?_⟩) hHeld ?_ ?_
               rotate_left
               ·intro w' s0
                go_simp
                with_reducible rfl
               rotate_left
               ·simp only [Act.put, List.setIfInBounds_toArray, List.set_cons_zero, List.set_cons_succ, i64_w, i32_w]
                rfl
               refine pure_ (i := 8) (N := some 51) (v := ?_) (a' := ?_) #[true, true, true, true, true, true, true, true, true, false, false] rfl rfl (any_of HT_.out (by kernel_rfl)) (fun _ _ _ h => h) (Or.inl ⟨by rfl, ?_⟩) ?_ ?_
               rotate_left
               ·intro w'
                go_simp
                with_reducible rfl
               rotate_left
               ·simp only [Act.put, List.setIfInBounds_toArray, List.set_cons_zero, List.set_cons_succ, i64_w, i32_w]
                rfl
               refine pure_ (i := 9) (N := some 52) (v := ?_) (a' := ?_) #[true, true, true, true, true, true, true, true, true, true, false] rfl rfl (any_of HT_.out (by kernel_rfl)) (fun _ _ _ h => h) (Or.inl ⟨by rfl, ?_⟩) ?_ ?_
               rotate_left
               ·intro w'
                go_simp
                with_reducible rfl
               rotate_left
               ·simp only [Act.put, List.setIfInBounds_toArray, List.set_cons_zero, List.set_cons_succ, i64_w, i32_w]
                rfl
               refine last_ (i := 10) (N := none) #[true, true, true, true, true, true, true, true, true, true, true] rfl rfl (one_of HT_.out (by kernel_rfl)) (by decide) (fun K hK => ?_)
               refine skip_ (w1 := ?_) (by rfl) rfl ?_ ?_
               rotate_left
               ·go_simp
                rfl
               refine hK.out _ _ ?_
               clear hK K
               refine done_ (done_of HT_.out (by kernel_rfl)) ?_
               try go_wp2
               go_roundg kj14
               case measure => have := HK1.out; have := HJ14.out; omega
               case rel => exact ⟨(y319), (t315), (wrap64 (x6_1 - 1)), (by first | rfl | (simp; done) | (simp [*]; done)), H', ⟨by have := HK1.out; have := HJ14.out; omega⟩, ⟨by (with_reducible repeat (first | apply Kd.R_alloc | apply Kd.R_drewN | apply Kd.R_drew)); exact Kd.R_mono HQ42.out (fun _ hk => hk.1)⟩, ⟨by (with_reducible repeat (first | apply Kd.V_alloc | apply Kd.V_drewN | apply Kd.V_drew)); exact Kd.V_mono (Kd.V_far (p := ⟨go35, ((ji29) : Int).toNat, none⟩) (Kd.V_mono HO317.out (fun k_ hk => (⟨hk, fun e_ => hk.2.1 (by rw [e_]; rfl)⟩ : _ ∧ k_ ≠ go35))) (fun _ hk => hk.2) (.int .u32 (Go.bits .or .u32 (rd x4_1 (ji29)) (ji34)))) (fun _ hk => ⟨hk.1.1, hk.1.2.1⟩)⟩, ⟨by repeat (first | (with_reducible first | exact HB.out | apply below_alloc | apply pw_below_drewN | apply below_drew1 | refine below_set ?_ GB35.out) | exact HB.out)⟩⟩
              ·rw [if_neg c33] at H
               exact absurd H (by simp)
             ·rw [if_neg c31] at H
              exact absurd H (by simp)
            ·rw [if_neg c30] at H
             exact absurd H (by simp)
           ·rw [if_neg c27] at H
            have c27b0 : decide (0 ≤ t314) = false := decide_eq_false c27
            clear c27
            have H' := Aside0.mk H
            clear H
            obtain ⟨Ao43, co43, eo43⟩ := Kd.R_slice HO_5.out
            subst eo43
            go_wp2_with (first | ((with_reducible refine gate_callee (f := 48) rfl ?_); refine goesL_ (some 35) rfl rfl Tryz.func48 (by kernel_rfl) rfl #[.slice Ao43 x5_14.length co43] rfl (by (try simp only [List.map_toArray, List.map_cons, List.map_nil]); first | done | rfl | (simp only [List.length_drop, List.length_take]; rfl)) ?_; (with_reducible refine (spec_trim.calls kj14 (fun k_ => some k_ = (.slice Ao43 x5_14.length co43 : Value).ownBlock) _ _ x5_14 t311 _ ?side1 A25.out).mono ?_); (case side1 => exact Kd.R_V (Kd.R_tight rfl (HO_5.out))); rintro e w44 ⟨v312, rfl, ho0, hb⟩; refine ⟨_, rfl, ?_⟩; have n0_ := Aside0.mk (Kd.R_below (by (with_reducible repeat (first | apply Kd.R_alloc | apply Kd.R_drewN | apply Kd.R_drew)); exact HO_4.out) hb); have n1_ := Aside0.mk (Kd.R_below (by (with_reducible repeat (first | apply Kd.R_alloc | apply Kd.R_drewN | apply Kd.R_drew)); exact HO_5.out) hb); have n2_ := Aside0.mk (Kd.V_lower (Kd.V_mono (ok' := fun k_ => (w.heap.size ≤ k_) ∧ some k_ ≠ (v296 : Value).ownBlock) ho0 (fun k_ hk_ => ⟨Or.elim hk_ (fun hs_ => ((HO_5.out).1 k_ hs_.symm).1) (fun hn_ => (Nat.le_trans (below_size (by repeat (first | (with_reducible first | exact HB.out | apply below_alloc | apply pw_below_drewN | apply below_drew1) | exact HB.out))) hn_)), Or.elim hk_ (fun hs_ => ((HO_5.out).1 k_ hs_.symm).2) (fun hn_ => (Kd.fresh' (Kd.R_lt (by (with_reducible repeat (first | apply Kd.R_alloc | apply Kd.R_drewN | apply Kd.R_drew)); exact HO_4.out)) k_ hn_))⟩)) (below_size (by repeat (first | (with_reducible first | exact HB.out | apply below_alloc | apply pw_below_drewN | apply below_drew1) | exact HB.out)))); have n3_ := Aside0.mk (below_step (by repeat (first | (with_reducible first | exact HB.out | apply below_alloc | apply pw_below_drewN | apply below_drew1) | exact HB.out)) hb); clear HO_4; clear HO_5; clear HB; have HO_4 := n0_; have HO_5 := n1_; have HO313 := n2_; have HB := n3_; clear n0_ n1_ n2_ n3_; (try clear hb); (try clear hb2); (try clear hk); (try clear hi); (try clear ho0); obtain ⟨Ao45, co45, eo45⟩ := Kd.V_slice HO313.out; subst eo45) | ((with_reducible refine gate_callee (f := 27) rfl ?_); refine goesL_ (some 38) rfl rfl Tryz.func27 (by kernel_rfl) rfl #[.slice Ao45 t311.length co45, .slice A1 l1.length c1] rfl (by (try simp only [List.map_toArray, List.map_cons, List.map_nil]); first | done | rfl | (simp only [List.length_drop, List.length_take]; rfl)) ?_; (with_reducible refine (spec_magCmp.calls kj14 _ _ t311 _ _ l1 t314 _ ?side1 ?side2 ?side3 ?side4 A26.out).mono ?_); (case side1 => repeat (first | exact (Kd.V_reads' HO313.out).2.2 | (with_reducible refine Kd.C_alloc ?_ _) | (with_reducible refine Kd.C_drewN ?_ _) | (with_reducible refine Kd.C_drew ?_))); (case side2 => exact (Kd.V_reads' HO313.out).2.1); (case side3 => repeat (first | exact (Kd.C_below HR1.out HB.out) | (with_reducible refine Kd.C_alloc ?_ _) | (with_reducible refine Kd.C_drewN ?_ _) | (with_reducible refine Kd.C_drew ?_))); (case side4 => exact HC1.out); rintro e w' ⟨rfl, ⟨nd, rfl⟩⟩; refine ⟨_, rfl, ?_⟩))
            go_roundg kj14
            case measure => have := HK1.out; have := HJ14.out; omega
            case rel => exact ⟨(x4_1), (t311), (wrap64 (x6_1 - 1)), (by first | rfl | (simp; done) | (simp [*]; done)), H', ⟨by have := HK1.out; have := HJ14.out; omega⟩, ⟨by (with_reducible repeat (first | apply Kd.R_alloc | apply Kd.R_drewN | apply Kd.R_drew)); exact Kd.R_mono HO_4.out (fun _ hk => hk.1)⟩, ⟨by (with_reducible repeat (first | apply Kd.V_alloc | apply Kd.V_drewN | apply Kd.V_drew)); exact HO313.out⟩, ⟨by repeat (first | (with_reducible first | exact HB.out | apply below_alloc | apply pw_below_drewN | apply below_drew1) | exact HB.out)⟩⟩
        ·rw [if_neg c13] at H
         exact absurd H (by simp)
       ·rw [if_neg c11] at H
        exact absurd H (by simp)
      ·rw [if_neg c10] at H
       exact absurd H (by simp)
     ·rw [if_neg c7] at H
      have c7b0 : decide (0 ≤ x6_1) = false := decide_eq_false c7
      clear c7
      replace H := Option.bind_eq_some_iff.mp H
      obtain ⟨t298, A460, H⟩ := H
      replace H : (some (t298, x5_1)) = some (r1, r2) := H
      have A46 := Aside0.mk A460
      clear A460
      simp only [Option.some.injEq, Prod.mk.injEq] at H
      obtain ⟨rfl, rfl⟩ := H
      obtain ⟨Ao47, co47, eo47⟩ := Kd.R_slice HO_4.out
      subst eo47
      go_wp2_with (first | ((with_reducible refine gate_callee (f := 48) rfl ?_); refine goesL_ (some 54) rfl rfl Tryz.func48 (by kernel_rfl) rfl #[.slice Ao47 x4_1.length co47] rfl (by (try simp only [List.map_toArray, List.map_cons, List.map_nil]); first | done | rfl | (simp only [List.length_drop, List.length_take]; rfl)) ?_; (with_reducible refine (spec_trim.calls k1 (fun k_ => some k_ = (.slice Ao47 x4_1.length co47 : Value).ownBlock) _ _ x4_1 t298 _ ?side1 A46.out).mono ?_); (case side1 => exact Kd.R_V (Kd.R_tight rfl (HO_4.out))); rintro e w48 ⟨v299, rfl, ho0, hb⟩; refine ⟨_, rfl, ?_⟩; have n0_ := Aside0.mk (Kd.R_below (by (with_reducible repeat (first | apply Kd.R_alloc | apply Kd.R_drewN | apply Kd.R_drew)); exact HO_4.out) hb); have n1_ := Aside0.mk (Kd.V_below (by (with_reducible repeat (first | apply Kd.V_alloc | apply Kd.V_drewN | apply Kd.V_drew)); exact HO_5.out) hb); have n2_ := Aside0.mk (Kd.V_lower (Kd.V_mono (ok' := fun k_ => (w.heap.size ≤ k_)) ho0 (fun k_ hk_ => Or.elim hk_ (fun hs_ => ((HO_4.out).1 k_ hs_.symm)) (fun hn_ => (Nat.le_trans (below_size (by repeat (first | (with_reducible first | exact HB.out | apply below_alloc | apply pw_below_drewN | apply below_drew1) | exact HB.out))) hn_)))) (below_size (by repeat (first | (with_reducible first | exact HB.out | apply below_alloc | apply pw_below_drewN | apply below_drew1) | exact HB.out)))); have n3_ := Aside0.mk (below_step (by repeat (first | (with_reducible first | exact HB.out | apply below_alloc | apply pw_below_drewN | apply below_drew1) | exact HB.out)) hb); clear HO_4; clear HO_5; clear HB; have HO_4 := n0_; have HO_5 := n1_; have HO300 := n2_; have HB := n3_; clear n0_ n1_ n2_ n3_; (try clear hb); (try clear hb2); (try clear hk); (try clear hi); (try clear ho0)))
      go_ret2
      exact ⟨_, _, by first | rfl | (simp [errW_none, errW_some] <;> rfl) | (simp [*, errW_none, errW_some] <;> rfl), by (with_reducible repeat (first | apply Kd.V_alloc | apply Kd.V_drewN | apply Kd.V_drew)); exact HO300.out, by (with_reducible repeat (first | apply Kd.V_alloc | apply Kd.V_drewN | apply Kd.V_drew)); exact Kd.V_mono HO_5.out (fun _ hk => hk.1), by repeat (first | (with_reducible first | exact HB.out | apply below_alloc | apply pw_below_drewN | apply below_drew1) | exact HB.out)⟩
  ·rw [if_neg c4] at H
   exact absurd H (by simp)
 ·rw [if_neg c3] at H
  exact absurd H (by simp)

/-! ### spec_WideDiv: function 26 -/
def spec_WideDiv.f (k : Nat) (a0_0 : Bool) (l0_1 : List Int) (a1_0 : Bool) (l1_1 : List Int) : Option (Bool × List Int × Bool × List Int) := (spec_magDiv.f k l0_1 l1_1).bind fun bt324 => ((spec_wide.f k (a0_0 != a1_0) bt324.1).bind fun bt330 => ((spec_wide.f k a0_0 bt324.2).bind fun bt334 => (some (bt330.1, bt330.2, bt334.1, bt334.2))))
theorem spec_WideDiv.mono : ∀ a0 a1 a2 a3 k, LeO (spec_WideDiv.f k a0 a1 a2 a3) (spec_WideDiv.f (k + 1) a0 a1 a2 a3) := by
 intro a0 a1 a2 a3 k
 unfold spec_WideDiv.f
 repeat' first
   | (with_reducible exact spec_magDiv.mono _ _ _)
   | (with_reducible exact spec_wide.mono _ _ _)
   | (with_reducible exact LeO.refl _)
   | (with_reducible exact LeO.none _)
   | (with_reducible refine LeO.ite ?_ ?_)
   | (with_reducible refine LeO.bind ?_ (fun _ => ?_))
   | exact spec_magDiv.mono _ _ _
   | exact spec_wide.mono _ _ _
   | exact LeO.none _
   | refine LeO.ite ?_ ?_
   | refine LeO.bind ?_ (fun _ => ?_)
def spec_WideDiv.T2 : Bool × List (List Nat × List Nat) := (true, [([], []), ([0], [0]), ([], []), ([2], [2]), ([1, 3], [1, 3]), ([], []), ([4, 5], [4, 5]), ([], []), ([7], [7]), ([], []), ([8, 9, 6], [8, 9]), ([6, 10, 0, 1, 2, 3, 4, 5, 6], [6]), ([10, 11, 0, 1, 2, 3, 4, 5, 6, 7, 8, 9, 10, 11], [10])])
def spec_WideDiv.B2 : List Nat := [0, 1, 0, 4, 15, 0, 63, 0, 128, 0, 1023, 2047, 4095]
theorem spec_WideDiv.tab2 : rtab .any (opsOf Tryz.f26 2) = spec_WideDiv.T2 := by kernel_rfl
theorem spec_WideDiv.bits2 : waitsOk spec_WideDiv.T2.2 spec_WideDiv.B2 = true := by kernel_rfl
set_option maxHeartbeats 8000000 in
set_option maxRecDepth 100000 in
theorem spec_WideDiv.calls (k : Nat) (a0_0 : Bool) (A0_1 : Option Addr) (c0_1 : Nat) (l0_1 : List Int) (a1_0 : Bool) (A1_1 : Option Addr) (c1_1 : Nat) (l1_1 : List Int) (r1 : Bool) (r2 : List Int) (r3 : Bool) (r4 : List Int) (w : World) (hr0_1 : Kd.C (Kd.int .u32) w A0_1 l0_1.length l0_1) (hc0_1 : l0_1.length ≤ c0_1) (hr1_1 : Kd.C (Kd.int .u32) w A1_1 l1_1.length l1_1) (hc1_1 : l1_1.length ≤ c1_1) (h : spec_WideDiv.f k a0_0 l0_1 a1_0 l1_1 = some (r1, r2, r3, r4)) :
  Calls Tryz.prog 26 #[.agg #[.bool a0_0, .slice A0_1 l0_1.length c0_1], .agg #[.bool a1_0, .slice A1_1 l1_1.length c1_1]] w fun e w' => ∃ v1_ v3_ : Value, e = .returned (.tuple #[.agg #[.bool r1, v1_], .agg #[.bool r3, v3_]]) ∧ Kd.V (Kd.int .u32) 22 w' w.heap.size (fun k_ => (w.heap.size ≤ k_)) v1_ r2 ∧ Kd.V (Kd.int .u32) 22 w' w.heap.size (fun k_ => (w.heap.size ≤ k_)) v3_ r4 ∧ Below w.heap.size w w' := by
 have hu27 := Tryz.underlying27
 have HR0_1 := Aside0.mk hr0_1
 have HC0_1 := Aside0.mk hc0_1
 clear hr0_1 hc0_1
 have HR1_1 := Aside0.mk hr1_1
 have HC1_1 := Aside0.mk hc1_1
 clear hr1_1 hc1_1
 have HB := Aside0.mk (Below.refl w.heap.size w)
 have H : ((spec_magDiv.f k l0_1 l1_1).bind fun bt324 => ((spec_wide.f k (a0_0 != a1_0) bt324.1).bind fun bt330 => ((spec_wide.f k a0_0 bt324.2).bind fun bt334 => (some (bt330.1, bt330.2, bt334.1, bt334.2))))) = some (r1, r2, r3, r4) := h
 clear h
 replace H := Option.bind_eq_some_iff.mp H
 obtain ⟨⟨t324, t327⟩, A30, H⟩ := H
 replace H : ((spec_wide.f k (a0_0 != a1_0) t324).bind fun bt330 => ((spec_wide.f k a0_0 t327).bind fun bt334 => (some (bt330.1, bt330.2, bt334.1, bt334.2)))) = some (r1, r2, r3, r4) := H
 have A3 := Aside0.mk A30
 clear A30
 replace H := Option.bind_eq_some_iff.mp H
 obtain ⟨⟨t330, t331⟩, A40, H⟩ := H
 replace H : ((spec_wide.f k a0_0 t327).bind fun bt334 => (some (t330, t331, bt334.1, bt334.2))) = some (r1, r2, r3, r4) := H
 have A4 := Aside0.mk A40
 clear A40
 replace H := Option.bind_eq_some_iff.mp H
 obtain ⟨⟨t334, t335⟩, A50, H⟩ := H
 replace H : (some (t330, t331, t334, t335)) = some (r1, r2, r3, r4) := H
 have A5 := Aside0.mk A50
 clear A50
 simp only [Option.some.injEq, Prod.mk.injEq] at H
 obtain ⟨rfl, rfl, rfl, rfl⟩ := H
 go_enter Tryz.func26, Tryz.ntmps26
 try go_wp2_with (first | ((with_reducible refine gate_dst (N := 2) rfl ?_); refine box_event ?hg (N := 2) ?hd (cs := #[.bool a0_0, .slice A0_1 l0_1.length c0_1]) (t := 27) ?hr ?_; (case hd => rfl); (case hg => rfl); (case hr => first | (go_simp; done) | (go_simp; rfl)); intro gb320 hg w6 hbox hb; have n0_ := Aside0.mk (below_step (by repeat (first | (with_reducible first | exact HB.out | apply below_alloc | apply pw_below_drewN | apply below_drew1) | exact HB.out)) hb); have n1_ := Aside0.mk (hbox); have n2_ := Aside0.mk ((by rw [hg]; exact (below_size (by repeat (first | (with_reducible first | exact HB.out | apply below_alloc | apply pw_below_drewN | apply below_drew1) | exact HB.out))) : w.heap.size ≤ gb320)); have n3_ := Aside0.mk ((by rw [hg]; exact (below_size (by repeat (first | (with_reducible first | exact HB.out | apply below_alloc | apply pw_below_drewN | apply below_drew1) | exact HB.out))) : w.heap.size ≤ gb320)); clear HB; have HB := n0_; have BK320 := n1_; have GW320 := n2_; have GE320 := n3_; clear n0_ n1_ n2_ n3_; clear hb hbox hg) | ((with_reducible refine gate_dst (N := 3) rfl ?_); refine box_event ?hg (N := 3) ?hd (cs := #[.bool a1_0, .slice A1_1 l1_1.length c1_1]) (t := 27) ?hr ?_; (case hd => rfl); (case hg => rfl); (case hr => first | (go_simp; done) | (go_simp; rfl)); intro gb321 hg w7 hbox hb; have n0_ := Aside0.mk (blk_below (g := gb320) (o := .cells #[.bool a0_0, .slice A0_1 l0_1.length c0_1] 27 (0, 0)) (by (with_reducible repeat (first | refine blk_drewN ?_ _ | refine blk_drew ?_ | refine blk_alloc ?_ _)); exact BK320.out) hb); have n1_ := Aside0.mk (below_step (by repeat (first | (with_reducible first | exact HB.out | apply below_alloc | apply pw_below_drewN | apply below_drew1 | refine below_set ?_ GE320.out) | exact HB.out)) hb); have n2_ := Aside0.mk (hbox); have n3_ := Aside0.mk ((by rw [hg]; exact (below_size (by repeat (first | (with_reducible first | exact HB.out | apply below_alloc | apply pw_below_drewN | apply below_drew1 | refine below_set ?_ GE320.out) | exact HB.out))) : w.heap.size ≤ gb321)); have n4_ := Aside0.mk ((by rw [hg]; exact (below_size (by repeat (first | (with_reducible first | exact HB.out | apply below_alloc | apply pw_below_drewN | apply below_drew1 | refine below_set ?_ GE320.out) | exact HB.out))) : w.heap.size ≤ gb321)); have n5_ := Aside0.mk ((by rw [hg]; exact Nat.ne_of_lt (blk_lt (g := gb320) (o := .cells #[.bool a0_0, .slice A0_1 l0_1.length c0_1] 27 (0, 0)) (by (with_reducible repeat (first | refine blk_drewN ?_ _ | refine blk_drew ?_ | refine blk_alloc ?_ _)); exact BK320.out)) : gb320 ≠ gb321)); have n6_ := Aside0.mk ((by rw [hg]; exact Nat.ne_of_gt (blk_lt (g := gb320) (o := .cells #[.bool a0_0, .slice A0_1 l0_1.length c0_1] 27 (0, 0)) (by (with_reducible repeat (first | refine blk_drewN ?_ _ | refine blk_drew ?_ | refine blk_alloc ?_ _)); exact BK320.out)) : gb321 ≠ gb320)); clear BK320; clear HB; have BK320 := n0_; have HB := n1_; have BK321 := n2_; have GW321 := n3_; have GE321 := n4_; have NB320_321 := n5_; have NB321_320 := n6_; clear n0_ n1_ n2_ n3_ n4_ n5_ n6_; clear hb hbox hg) | ((with_reducible refine gate_dst (N := 4) rfl ?_); refine box_event ?hg (N := 4) ?hd (cs := #[.bool false, .slice none 0 0]) (t := 27) ?hr ?_; (case hd => rfl); (case hg => rfl); (case hr => first | (go_simp; done) | (go_simp; rfl)); intro gb322 hg w8 hbox hb; have n0_ := Aside0.mk (blk_below (g := gb320) (o := .cells #[.bool a0_0, .slice A0_1 l0_1.length c0_1] 27 (0, 0)) (by (with_reducible repeat (first | refine blk_drewN ?_ _ | refine blk_drew ?_ | refine blk_alloc ?_ _)); exact BK320.out) hb); have n1_ := Aside0.mk (blk_below (g := gb321) (o := .cells #[.bool a1_0, .slice A1_1 l1_1.length c1_1] 27 (0, 0)) (by (with_reducible repeat (first | refine blk_drewN ?_ _ | refine blk_drew ?_ | refine blk_alloc ?_ _)); exact BK321.out) hb); have n2_ := Aside0.mk (below_step (by repeat (first | (with_reducible first | exact HB.out | apply below_alloc | apply pw_below_drewN | apply below_drew1 | refine below_set ?_ GE320.out | refine below_set ?_ GE321.out) | exact HB.out)) hb); have n3_ := Aside0.mk (hbox); have n4_ := Aside0.mk ((by rw [hg]; exact (below_size (by repeat (first | (with_reducible first | exact HB.out | apply below_alloc | apply pw_below_drewN | apply below_drew1 | refine below_set ?_ GE320.out | refine below_set ?_ GE321.out) | exact HB.out))) : w.heap.size ≤ gb322)); have n5_ := Aside0.mk ((by rw [hg]; exact (below_size (by repeat (first | (with_reducible first | exact HB.out | apply below_alloc | apply pw_below_drewN | apply below_drew1 | refine below_set ?_ GE320.out | refine below_set ?_ GE321.out) | exact HB.out))) : w.heap.size ≤ gb322)); have n6_ := Aside0.mk ((by rw [hg]; exact Nat.ne_of_lt (blk_lt (g := gb320) (o := .cells #[.bool a0_0, .slice A0_1 l0_1.length c0_1] 27 (0, 0)) (by (with_reducible repeat (first | refine blk_drewN ?_ _ | refine blk_drew ?_ | refine blk_alloc ?_ _)); exact BK320.out)) : gb320 ≠ gb322)); have n7_ := Aside0.mk ((by rw [hg]; exact Nat.ne_of_gt (blk_lt (g := gb320) (o := .cells #[.bool a0_0, .slice A0_1 l0_1.length c0_1] 27 (0, 0)) (by (with_reducible repeat (first | refine blk_drewN ?_ _ | refine blk_drew ?_ | refine blk_alloc ?_ _)); exact BK320.out)) : gb322 ≠ gb320)); have n8_ := Aside0.mk ((by rw [hg]; exact Nat.ne_of_lt (blk_lt (g := gb321) (o := .cells #[.bool a1_0, .slice A1_1 l1_1.length c1_1] 27 (0, 0)) (by (with_reducible repeat (first | refine blk_drewN ?_ _ | refine blk_drew ?_ | refine blk_alloc ?_ _)); exact BK321.out)) : gb321 ≠ gb322)); have n9_ := Aside0.mk ((by rw [hg]; exact Nat.ne_of_gt (blk_lt (g := gb321) (o := .cells #[.bool a1_0, .slice A1_1 l1_1.length c1_1] 27 (0, 0)) (by (with_reducible repeat (first | refine blk_drewN ?_ _ | refine blk_drew ?_ | refine blk_alloc ?_ _)); exact BK321.out)) : gb322 ≠ gb321)); clear BK320; clear BK321; clear HB; have BK320 := n0_; have BK321 := n1_; have HB := n2_; have BK322 := n3_; have GW322 := n4_; have GE322 := n5_; have NB320_322 := n6_; have NB322_320 := n7_; have NB321_322 := n8_; have NB322_321 := n9_; clear n0_ n1_ n2_ n3_ n4_ n5_ n6_ n7_ n8_ n9_; clear hb hbox hg) | ((with_reducible refine gate_dst (N := 5) rfl ?_); refine box_event ?hg (N := 5) ?hd (cs := #[.bool false, .slice none 0 0]) (t := 27) ?hr ?_; (case hd => rfl); (case hg => rfl); (case hr => first | (go_simp; done) | (go_simp; rfl)); intro gb323 hg w9 hbox hb; have n0_ := Aside0.mk (blk_below (g := gb320) (o := .cells #[.bool a0_0, .slice A0_1 l0_1.length c0_1] 27 (0, 0)) (by (with_reducible repeat (first | refine blk_drewN ?_ _ | refine blk_drew ?_ | refine blk_alloc ?_ _)); exact BK320.out) hb); have n1_ := Aside0.mk (blk_below (g := gb321) (o := .cells #[.bool a1_0, .slice A1_1 l1_1.length c1_1] 27 (0, 0)) (by (with_reducible repeat (first | refine blk_drewN ?_ _ | refine blk_drew ?_ | refine blk_alloc ?_ _)); exact BK321.out) hb); have n2_ := Aside0.mk (blk_below (g := gb322) (o := .cells #[.bool false, .slice none 0 0] 27 (0, 0)) (by (with_reducible repeat (first | refine blk_drewN ?_ _ | refine blk_drew ?_ | refine blk_alloc ?_ _)); exact BK322.out) hb); have n3_ := Aside0.mk (below_step (by repeat (first | (with_reducible first | exact HB.out | apply below_alloc | apply pw_below_drewN | apply below_drew1 | refine below_set ?_ GE320.out | refine below_set ?_ GE321.out | refine below_set ?_ GE322.out) | exact HB.out)) hb); have n4_ := Aside0.mk (hbox); have n5_ := Aside0.mk ((by rw [hg]; exact (below_size (by repeat (first | (with_reducible first | exact HB.out | apply below_alloc | apply pw_below_drewN | apply below_drew1 | refine below_set ?_ GE320.out | refine below_set ?_ GE321.out | refine below_set ?_ GE322.out) | exact HB.out))) : w.heap.size ≤ gb323)); have n6_ := Aside0.mk ((by rw [hg]; exact (below_size (by repeat (first | (with_reducible first | exact HB.out | apply below_alloc | apply pw_below_drewN | apply below_drew1 | refine below_set ?_ GE320.out | refine below_set ?_ GE321.out | refine below_set ?_ GE322.out) | exact HB.out))) : w.heap.size ≤ gb323)); have n7_ := Aside0.mk ((by rw [hg]; exact Nat.ne_of_lt (blk_lt (g := gb320) (o := .cells #[.bool a0_0, .slice A0_1 l0_1.length c0_1] 27 (0, 0)) (by (with_reducible repeat (first | refine blk_drewN ?_ _ | refine blk_drew ?_ | refine blk_alloc ?_ _)); exact BK320.out)) : gb320 ≠ gb323)); have n8_ := Aside0.mk ((by rw [hg]; exact Nat.ne_of_gt (blk_lt (g := gb320) (o := .cells #[.bool a0_0, .slice A0_1 l0_1.length c0_1] 27 (0, 0)) (by (with_reducible repeat (first | refine blk_drewN ?_ _ | refine blk_drew ?_ | refine blk_alloc ?_ _)); exact BK320.out)) : gb323 ≠ gb320)); have n9_ := Aside0.mk ((by rw [hg]; exact Nat.ne_of_lt (blk_lt (g := gb321) (o := .cells #[.bool a1_0, .slice A1_1 l1_1.length c1_1] 27 (0, 0)) (by (with_reducible repeat (first | refine blk_drewN ?_ _ | refine blk_drew ?_ | refine blk_alloc ?_ _)); exact BK321.out)) : gb321 ≠ gb323)); have n10_ := Aside0.mk ((by rw [hg]; exact Nat.ne_of_gt (blk_lt (g := gb321) (o := .cells #[.bool a1_0, .slice A1_1 l1_1.length c1_1] 27 (0, 0)) (by (with_reducible repeat (first | refine blk_drewN ?_ _ | refine blk_drew ?_ | refine blk_alloc ?_ _)); exact BK321.out)) : gb323 ≠ gb321)); have n11_ := Aside0.mk ((by rw [hg]; exact Nat.ne_of_lt (blk_lt (g := gb322) (o := .cells #[.bool false, .slice none 0 0] 27 (0, 0)) (by (with_reducible repeat (first | refine blk_drewN ?_ _ | refine blk_drew ?_ | refine blk_alloc ?_ _)); exact BK322.out)) : gb322 ≠ gb323)); have n12_ := Aside0.mk ((by rw [hg]; exact Nat.ne_of_gt (blk_lt (g := gb322) (o := .cells #[.bool false, .slice none 0 0] 27 (0, 0)) (by (with_reducible repeat (first | refine blk_drewN ?_ _ | refine blk_drew ?_ | refine blk_alloc ?_ _)); exact BK322.out)) : gb323 ≠ gb322)); clear BK320; clear BK321; clear BK322; clear HB; have BK320 := n0_; have BK321 := n1_; have BK322 := n2_; have HB := n3_; have BK323 := n4_; have GW323 := n5_; have GE323 := n6_; have NB320_323 := n7_; have NB323_320 := n8_; have NB321_323 := n9_; have NB323_321 := n10_; have NB322_323 := n11_; have NB323_322 := n12_; clear n0_ n1_ n2_ n3_ n4_ n5_ n6_ n7_ n8_ n9_ n10_ n11_ n12_; clear hb hbox hg; have hnb10 := NB320_321.out; have hnc10 := NB321_320.out; have hnb11 := NB320_322.out; have hnc11 := NB322_320.out; have hnb12 := NB320_323.out; have hnc12 := NB323_320.out; have hcz13_0 : w9.cell? ⟨gb320, 0, none⟩ = some (.bool a0_0) := (blk_cell BK320.out 0).trans rfl; have hcz13_1 : w9.cell? ⟨gb320, 1, none⟩ = some (.slice A0_1 l0_1.length c0_1) := (blk_cell BK320.out 1).trans rfl; have hfz13_0 := blk_frozen BK320.out 0; have hfz13_1 := blk_frozen BK320.out 1; have hnb14 := NB321_322.out; have hnc14 := NB322_321.out; have hnb15 := NB321_323.out; have hnc15 := NB323_321.out; have hcz16_0 : w9.cell? ⟨gb321, 0, none⟩ = some (.bool a1_0) := (blk_cell BK321.out 0).trans rfl; have hcz16_1 : w9.cell? ⟨gb321, 1, none⟩ = some (.slice A1_1 l1_1.length c1_1) := (blk_cell BK321.out 1).trans rfl; have hfz16_0 := blk_frozen BK321.out 0; have hfz16_1 := blk_frozen BK321.out 1) | ((with_reducible refine gate_callee (f := 51) rfl ?_); refine goesL_ (some 13) rfl rfl Tryz.func51 (by kernel_rfl) rfl #[.slice A0_1 l0_1.length c0_1, .slice A1_1 l1_1.length c1_1] rfl (by (try simp only [List.map_toArray, List.map_cons, List.map_nil]); first | done | rfl | (simp only [List.length_drop, List.length_take]; rfl)) ?_; (with_reducible refine (spec_magDiv.calls k _ _ l0_1 _ _ l1_1 t324 t327 _ ?side1 ?side2 ?side3 ?side4 A3.out).mono ?_); (case side1 => repeat (first | exact (Kd.C_below HR0_1.out HB.out) | (with_reducible refine Kd.C_alloc ?_ _) | (with_reducible refine Kd.C_drewN ?_ _) | (with_reducible refine Kd.C_drew ?_))); (case side2 => exact HC0_1.out); (case side3 => repeat (first | exact (Kd.C_below HR1_1.out HB.out) | (with_reducible refine Kd.C_alloc ?_ _) | (with_reducible refine Kd.C_drewN ?_ _) | (with_reducible refine Kd.C_drew ?_))); (case side4 => exact HC1_1.out); rintro e w17 ⟨v325, v328, rfl, ho0, ho1, hb⟩; refine ⟨_, rfl, ?_⟩; have n0_ := Aside0.mk (Kd.V_lower (Kd.V_mono (ok' := fun k_ => (w.heap.size ≤ k_) ∧ k_ ≠ gb320 ∧ k_ ≠ gb321 ∧ k_ ≠ gb322 ∧ k_ ≠ gb323) ho0 (fun k_ hk_ => ⟨(Nat.le_trans (below_size (by repeat (first | (with_reducible first | exact HB.out | apply below_alloc | apply pw_below_drewN | apply below_drew1 | refine below_set ?_ GE320.out | refine below_set ?_ GE321.out | refine below_set ?_ GE322.out | refine below_set ?_ GE323.out) | exact HB.out))) hk_), (Kd.freshB (g := gb320) (o := .cells #[.bool a0_0, .slice A0_1 l0_1.length c0_1] 27 (0, 0)) (by (with_reducible repeat (first | refine blk_drewN ?_ _ | refine blk_drew ?_ | refine blk_alloc ?_ _)); exact BK320.out) k_ hk_), (Kd.freshB (g := gb321) (o := .cells #[.bool a1_0, .slice A1_1 l1_1.length c1_1] 27 (0, 0)) (by (with_reducible repeat (first | refine blk_drewN ?_ _ | refine blk_drew ?_ | refine blk_alloc ?_ _)); exact BK321.out) k_ hk_), (Kd.freshB (g := gb322) (o := .cells #[.bool false, .slice none 0 0] 27 (0, 0)) (by (with_reducible repeat (first | refine blk_drewN ?_ _ | refine blk_drew ?_ | refine blk_alloc ?_ _)); exact BK322.out) k_ hk_), (Kd.freshB (g := gb323) (o := .cells #[.bool false, .slice none 0 0] 27 (0, 0)) (by (with_reducible repeat (first | refine blk_drewN ?_ _ | refine blk_drew ?_ | refine blk_alloc ?_ _)); exact BK323.out) k_ hk_)⟩)) (below_size (by repeat (first | (with_reducible first | exact HB.out | apply below_alloc | apply pw_below_drewN | apply below_drew1 | refine below_set ?_ GE320.out | refine below_set ?_ GE321.out | refine below_set ?_ GE322.out | refine below_set ?_ GE323.out) | exact HB.out)))); have n1_ := Aside0.mk (Kd.V_lower (Kd.V_mono (ok' := fun k_ => (w.heap.size ≤ k_) ∧ k_ ≠ gb320 ∧ k_ ≠ gb321 ∧ k_ ≠ gb322 ∧ k_ ≠ gb323) ho1 (fun k_ hk_ => ⟨(Nat.le_trans (below_size (by repeat (first | (with_reducible first | exact HB.out | apply below_alloc | apply pw_below_drewN | apply below_drew1 | refine below_set ?_ GE320.out | refine below_set ?_ GE321.out | refine below_set ?_ GE322.out | refine below_set ?_ GE323.out) | exact HB.out))) hk_), (Kd.freshB (g := gb320) (o := .cells #[.bool a0_0, .slice A0_1 l0_1.length c0_1] 27 (0, 0)) (by (with_reducible repeat (first | refine blk_drewN ?_ _ | refine blk_drew ?_ | refine blk_alloc ?_ _)); exact BK320.out) k_ hk_), (Kd.freshB (g := gb321) (o := .cells #[.bool a1_0, .slice A1_1 l1_1.length c1_1] 27 (0, 0)) (by (with_reducible repeat (first | refine blk_drewN ?_ _ | refine blk_drew ?_ | refine blk_alloc ?_ _)); exact BK321.out) k_ hk_), (Kd.freshB (g := gb322) (o := .cells #[.bool false, .slice none 0 0] 27 (0, 0)) (by (with_reducible repeat (first | refine blk_drewN ?_ _ | refine blk_drew ?_ | refine blk_alloc ?_ _)); exact BK322.out) k_ hk_), (Kd.freshB (g := gb323) (o := .cells #[.bool false, .slice none 0 0] 27 (0, 0)) (by (with_reducible repeat (first | refine blk_drewN ?_ _ | refine blk_drew ?_ | refine blk_alloc ?_ _)); exact BK323.out) k_ hk_)⟩)) (below_size (by repeat (first | (with_reducible first | exact HB.out | apply below_alloc | apply pw_below_drewN | apply below_drew1 | refine below_set ?_ GE320.out | refine below_set ?_ GE321.out | refine below_set ?_ GE322.out | refine below_set ?_ GE323.out) | exact HB.out)))); have n2_ := Aside0.mk (blk_below (g := gb320) (o := .cells #[.bool a0_0, .slice A0_1 l0_1.length c0_1] 27 (0, 0)) (by (with_reducible repeat (first | refine blk_drewN ?_ _ | refine blk_drew ?_ | refine blk_alloc ?_ _)); exact BK320.out) hb); have n3_ := Aside0.mk (blk_below (g := gb321) (o := .cells #[.bool a1_0, .slice A1_1 l1_1.length c1_1] 27 (0, 0)) (by (with_reducible repeat (first | refine blk_drewN ?_ _ | refine blk_drew ?_ | refine blk_alloc ?_ _)); exact BK321.out) hb); have n4_ := Aside0.mk (blk_below (g := gb322) (o := .cells #[.bool false, .slice none 0 0] 27 (0, 0)) (by (with_reducible repeat (first | refine blk_drewN ?_ _ | refine blk_drew ?_ | refine blk_alloc ?_ _)); exact BK322.out) hb); have n5_ := Aside0.mk (blk_below (g := gb323) (o := .cells #[.bool false, .slice none 0 0] 27 (0, 0)) (by (with_reducible repeat (first | refine blk_drewN ?_ _ | refine blk_drew ?_ | refine blk_alloc ?_ _)); exact BK323.out) hb); have n6_ := Aside0.mk (below_step (by repeat (first | (with_reducible first | exact HB.out | apply below_alloc | apply pw_below_drewN | apply below_drew1 | refine below_set ?_ GE320.out | refine below_set ?_ GE321.out | refine below_set ?_ GE322.out | refine below_set ?_ GE323.out) | exact HB.out)) hb); clear BK320; clear BK321; clear BK322; clear BK323; clear HB; have HO326 := n0_; have HO329 := n1_; have BK320 := n2_; have BK321 := n3_; have BK322 := n4_; have BK323 := n5_; have HB := n6_; clear n0_ n1_ n2_ n3_ n4_ n5_ n6_; (try clear hb); (try clear hb2); (try clear hk); (try clear hi); (try clear ho0); (try clear ho1)))
 have n0_ := Aside0.mk (Kd.V_drew HO326.out)
 have n1_ := Aside0.mk (Kd.V_drew HO329.out)
 have n2_ := Aside0.mk (blk_drew BK320.out)
 have n3_ := Aside0.mk (blk_drew BK321.out)
 have n4_ := Aside0.mk (blk_drew BK322.out)
 have n5_ := Aside0.mk (blk_drew BK323.out)
 have n6_ := Aside0.mk (below_drew1 HB.out)
 clear HO326 HO329 BK320 BK321 BK322 BK323 HB
 have HO326 := n0_
 have HO329 := n1_
 have BK320 := n2_
 have BK321 := n3_
 have BK322 := n4_
 have BK323 := n5_
 have HB := n6_
 clear n0_ n1_ n2_ n3_ n4_ n5_ n6_
 obtain ⟨Ao19, co19, eo19⟩ := Kd.V_slice HO326.out
 (first | subst eo19 | (injection eo19 with f1_ f2_ f3_; have f4_ := f1_.symm; have f5_ := f3_.symm; clear f1_ f2_ f3_; subst f4_; subst f5_))
 refine start_ (n := 13) (S := fun w' => w'.cell? ⟨gb320, 0, none⟩ = some (.bool a0_0) ∧ w'.cell? ⟨gb320, 1, none⟩ = some (.slice A0_1 l0_1.length c0_1) ∧ w'.cell? ⟨gb321, 0, none⟩ = some (.bool a1_0) ∧ w'.cell? ⟨gb321, 1, none⟩ = some (.slice A1_1 l1_1.length c1_1)) (ds := []) #[false, false, false, false, false, false, false, false, false, false, false, false, false] (by kernel_rfl) rfl rfl ⟨(blk_cell BK320.out 0).trans rfl, (blk_cell BK320.out 1).trans rfl, (blk_cell BK321.out 0).trans rfl, (blk_cell BK321.out 1).trans rfl⟩ (fun hHeld => ?_); refine with_tabW spec_WideDiv.tab2 spec_WideDiv.bits2 (fun HT_ HW_ => ?_)
 generalize w17.drew = w18 at HO326 HO329 BK320 BK321 BK322 BK323 HB hHeld ⊢
 refine pure_ (i := 0) (N := some 16) (v := ?_) (a' := ?_) #[true, false, false, false, false, false, false, false, false, false, false, false, false] rfl rfl (any_of HT_.out (by kernel_rfl)) (fun _ _ _ h => h) (Or.inl ⟨by rfl, ?_⟩) ?_ ?_
 rotate_left
 ·intro w'
  go_simp
  with_reducible rfl
 rotate_left
 ·simp only [Act.put, List.setIfInBounds_toArray, List.set_cons_zero, List.set_cons_succ, i64_w, i32_w]
  rfl
 refine pure_ (i := 2) (N := some 18) (v := ?_) (a' := ?_) #[true, false, true, false, false, false, false, false, false, false, false, false, false] rfl rfl (any_of HT_.out (by kernel_rfl)) (fun _ _ _ h => h) (Or.inl ⟨by rfl, ?_⟩) ?_ ?_
 rotate_left
 ·intro w'
  go_simp
  with_reducible rfl
 rotate_left
 ·simp only [Act.put, List.setIfInBounds_toArray, List.set_cons_zero, List.set_cons_succ, i64_w, i32_w]
  rfl
 refine pure_ (i := 5) (N := some 21) (v := ?_) (a' := ?_) #[true, false, true, false, false, true, false, false, false, false, false, false, false] rfl rfl (any_of HT_.out (by kernel_rfl)) (fun _ _ _ h => h) (Or.inl ⟨by rfl, ?_⟩) ?_ ?_
 rotate_left
 ·intro w'
  go_simp
  with_reducible rfl
 rotate_left
 ·simp only [Act.put, List.setIfInBounds_toArray, List.set_cons_zero, List.set_cons_succ, i64_w, i32_w]
  rfl
 refine pure_ (i := 7) (N := some 23) (v := ?_) (a' := ?_) #[true, false, true, false, false, true, false, true, false, false, false, false, false] rfl rfl (any_of HT_.out (by kernel_rfl)) (fun _ _ _ h => h) (Or.inl ⟨by rfl, ?_⟩) ?_ ?_
 rotate_left
 ·intro w'
  go_simp
  with_reducible rfl
 rotate_left
 ·simp only [Act.put, List.setIfInBounds_toArray, List.set_cons_zero, List.set_cons_succ, i64_w, i32_w]
  rfl
 refine pure_ (i := 9) (N := some 25) (v := ?_) (a' := ?_) #[true, false, true, false, false, true, false, true, false, true, false, false, false] rfl rfl (any_of HT_.out (by kernel_rfl)) (fun _ _ _ h => h) (Or.inl ⟨by rfl, ?_⟩) ?_ ?_
 rotate_left
 ·intro w'
  go_simp
  with_reducible rfl
 rotate_left
 ·simp only [Act.put, List.setIfInBounds_toArray, List.set_cons_zero, List.set_cons_succ, i64_w, i32_w]
  rfl
 refine take_ (i := 1) (N := some 17) (v := ?_) (a' := ?_) #[true, true, true, false, false, true, false, true, false, true, false, false, false] rfl rfl (take_ofW HT_.out HW_.out (by kernel_rfl)) (fun _ _ _ h => h) (Or.inl ⟨by rfl, ?_⟩) hHeld ?_ ?_
 rotate_left
 ·rintro w' ⟨s0, s1, s2, s3⟩
  go_simp
  with_reducible rfl
 rotate_left
 ·simp only [Act.put, List.setIfInBounds_toArray, List.set_cons_zero, List.set_cons_succ, i64_w, i32_w]
  rfl
 refine take_ (i := 3) (N := some 19) (v := ?_) (a' := ?_) #[true, true, true, true, false, true, false, true, false, true, false, false, false] rfl rfl (take_ofW HT_.out HW_.out (by kernel_rfl)) (fun _ _ _ h => h) (Or.inl ⟨by rfl, ?_⟩) hHeld ?_ ?_
 rotate_left
 ·rintro w' ⟨s0, s1, s2, s3⟩
  go_simp
  with_reducible rfl
 rotate_left
 ·simp only [Act.put, List.setIfInBounds_toArray, List.set_cons_zero, List.set_cons_succ, i64_w, i32_w]
  rfl
 refine pure_ (i := 4) (N := some 20) (v := ?_) (a' := ?_) #[true, true, true, true, true, true, false, true, false, true, false, false, false] rfl rfl (any_of HT_.out (by kernel_rfl)) (fun _ _ _ h => h) (Or.inl ⟨by rfl, ?_⟩) ?_ ?_
 rotate_left
 ·intro w'
  go_simp
  with_reducible rfl
 rotate_left
 ·simp only [Act.put, List.setIfInBounds_toArray, List.set_cons_zero, List.set_cons_succ, i64_w, i32_w]
  rfl
 refine take_ (i := 8) (N := some 24) (v := ?_) (a' := ?_) #[true, true, true, true, true, true, false, true, true, true, false, false, false] rfl rfl (take_ofW HT_.out HW_.out (by kernel_rfl)) (fun _ _ _ h => h) (Or.inl ⟨by rfl, ?_⟩) hHeld ?_ ?_
 rotate_left
 ·rintro w' ⟨s0, s1, s2, s3⟩
  go_simp
  with_reducible rfl
 rotate_left
 ·simp only [Act.put, List.setIfInBounds_toArray, List.set_cons_zero, List.set_cons_succ, i64_w, i32_w]
  rfl
 refine one_ (i := 6) (N := some 22) #[true, true, true, true, true, true, true, true, true, true, false, false, false] rfl rfl (one_of HT_.out (by kernel_rfl)) (by decide) (fun K hK => ?_)
 refine goes_ Tryz.func24 (by kernel_rfl) rfl #[.bool (a0_0 != a1_0), .slice Ao19 t324.length co19] (by rfl) rfl rfl (by (try simp only [List.map_toArray, List.map_cons, List.map_nil]); first | done | rfl | (simp only [List.length_drop, List.length_take]; rfl)) ?_
 with_reducible refine (spec_wide.calls k (a0_0 != a1_0) (fun k_ => ((w.heap.size ≤ k_) ∧ (k_ ≠ gb320 ∧ (k_ ≠ gb321 ∧ (k_ ≠ gb322 ∧ k_ ≠ gb323))))) _ _ t324 t330 t331 _ ?side1 A4.out).mono ?_
 (case side1 => exact HO326.out)
 rintro e w20 ⟨v332, rfl, ho0, hb⟩
 refine ⟨_, rfl, ?_⟩
 have n0_ := Aside0.mk (Kd.V_below (by (with_reducible repeat (first | apply Kd.V_alloc | apply Kd.V_drewN | apply Kd.V_drew)); exact HO326.out) hb)
 have n1_ := Aside0.mk (Kd.V_below (by (with_reducible repeat (first | apply Kd.V_alloc | apply Kd.V_drewN | apply Kd.V_drew)); exact HO329.out) hb)
 have n2_ := Aside0.mk (Kd.V_lower (Kd.V_mono (ok' := fun k_ => (w.heap.size ≤ k_) ∧ k_ ≠ gb320 ∧ k_ ≠ gb321 ∧ k_ ≠ gb322 ∧ k_ ≠ gb323) ho0 (fun k_ hk_ => ⟨Or.elim hk_ (fun hs_ => hs_.1) (fun hn_ => (Nat.le_trans (below_size (by repeat (first | (with_reducible first | exact HB.out | apply below_alloc | apply pw_below_drewN | apply below_drew1 | refine below_set ?_ GE320.out | refine below_set ?_ GE321.out | refine below_set ?_ GE322.out | refine below_set ?_ GE323.out) | exact HB.out))) hn_)), Or.elim hk_ (fun hs_ => hs_.2.1) (fun hn_ => (Kd.freshB (g := gb320) (o := .cells #[.bool a0_0, .slice A0_1 l0_1.length c0_1] 27 (0, 0)) (by (with_reducible repeat (first | refine blk_drewN ?_ _ | refine blk_drew ?_ | refine blk_alloc ?_ _)); exact BK320.out) k_ hn_)), Or.elim hk_ (fun hs_ => hs_.2.2.1) (fun hn_ => (Kd.freshB (g := gb321) (o := .cells #[.bool a1_0, .slice A1_1 l1_1.length c1_1] 27 (0, 0)) (by (with_reducible repeat (first | refine blk_drewN ?_ _ | refine blk_drew ?_ | refine blk_alloc ?_ _)); exact BK321.out) k_ hn_)), Or.elim hk_ (fun hs_ => hs_.2.2.2.1) (fun hn_ => (Kd.freshB (g := gb322) (o := .cells #[.bool false, .slice none 0 0] 27 (0, 0)) (by (with_reducible repeat (first | refine blk_drewN ?_ _ | refine blk_drew ?_ | refine blk_alloc ?_ _)); exact BK322.out) k_ hn_)), Or.elim hk_ (fun hs_ => hs_.2.2.2.2) (fun hn_ => (Kd.freshB (g := gb323) (o := .cells #[.bool false, .slice none 0 0] 27 (0, 0)) (by (with_reducible repeat (first | refine blk_drewN ?_ _ | refine blk_drew ?_ | refine blk_alloc ?_ _)); exact BK323.out) k_ hn_))⟩)) (below_size (by repeat (first | (with_reducible first | exact HB.out | apply below_alloc | apply pw_below_drewN | apply below_drew1 | refine below_set ?_ GE320.out | refine below_set ?_ GE321.out | refine below_set ?_ GE322.out | refine below_set ?_ GE323.out) | exact HB.out))))
 have n3_ := Aside0.mk (blk_below (g := gb320) (o := .cells #[.bool a0_0, .slice A0_1 l0_1.length c0_1] 27 (0, 0)) (by (with_reducible repeat (first | refine blk_drewN ?_ _ | refine blk_drew ?_ | refine blk_alloc ?_ _)); exact BK320.out) hb)
 have n4_ := Aside0.mk (blk_below (g := gb321) (o := .cells #[.bool a1_0, .slice A1_1 l1_1.length c1_1] 27 (0, 0)) (by (with_reducible repeat (first | refine blk_drewN ?_ _ | refine blk_drew ?_ | refine blk_alloc ?_ _)); exact BK321.out) hb)
 have n5_ := Aside0.mk (blk_below (g := gb322) (o := .cells #[.bool false, .slice none 0 0] 27 (0, 0)) (by (with_reducible repeat (first | refine blk_drewN ?_ _ | refine blk_drew ?_ | refine blk_alloc ?_ _)); exact BK322.out) hb)
 have n6_ := Aside0.mk (blk_below (g := gb323) (o := .cells #[.bool false, .slice none 0 0] 27 (0, 0)) (by (with_reducible repeat (first | refine blk_drewN ?_ _ | refine blk_drew ?_ | refine blk_alloc ?_ _)); exact BK323.out) hb)
 have n7_ := Aside0.mk (below_step (by repeat (first | (with_reducible first | exact HB.out | apply below_alloc | apply pw_below_drewN | apply below_drew1 | refine below_set ?_ GE320.out | refine below_set ?_ GE321.out | refine below_set ?_ GE322.out | refine below_set ?_ GE323.out) | exact HB.out)) hb)
 clear HO326 HO329 BK320 BK321 BK322 BK323 HB
 have HO326 := n0_
 have HO329 := n1_
 have HO333 := n2_
 have BK320 := n3_
 have BK321 := n4_
 have BK322 := n5_
 have BK323 := n6_
 have HB := n7_
 clear n0_ n1_ n2_ n3_ n4_ n5_ n6_ n7_
 (try clear hb)
 (try clear hb2)
 (try clear hk)
 (try clear hi)
 (try clear ho0)
 obtain ⟨Ao21, co21, eo21⟩ := Kd.V_slice HO329.out
 (first | subst eo21 | (injection eo21 with f1_ f2_ f3_; have f4_ := f1_.symm; have f5_ := f3_.symm; clear f1_ f2_ f3_; subst f4_; subst f5_))
 refine hK.out _ _ ⟨(blk_cell BK320.out 0).trans rfl, (blk_cell BK320.out 1).trans rfl, (blk_cell BK321.out 0).trans rfl, (blk_cell BK321.out 1).trans rfl⟩ (fun hHeld => ?_)
 clear hK K
 refine norm_ (a' := ?_) ?_ ?_
 rotate_left
 ·show Act.put _ (some 22) _ = _
  simp only [Act.put, List.setIfInBounds_toArray, List.set_cons_zero, List.set_cons_succ, i64_w, i32_w]
  rfl
 refine one_ (i := 10) (N := some 26) #[true, true, true, true, true, true, true, true, true, true, true, false, false] rfl rfl (one_of HT_.out (by kernel_rfl)) (by decide) (fun K hK => ?_)
 refine goes_ Tryz.func24 (by kernel_rfl) rfl #[.bool a0_0, .slice Ao21 t327.length co21] (by rfl) rfl rfl (by (try simp only [List.map_toArray, List.map_cons, List.map_nil]); first | done | rfl | (simp only [List.length_drop, List.length_take]; rfl)) ?_
 with_reducible refine (spec_wide.calls k a0_0 (fun k_ => ((w.heap.size ≤ k_) ∧ (k_ ≠ gb320 ∧ (k_ ≠ gb321 ∧ (k_ ≠ gb322 ∧ k_ ≠ gb323))))) _ _ t327 t334 t335 _ ?side1 A5.out).mono ?_
 (case side1 => exact HO329.out)
 rintro e w22 ⟨v336, rfl, ho0, hb⟩
 refine ⟨_, rfl, ?_⟩
 have n0_ := Aside0.mk (Kd.V_below (by (with_reducible repeat (first | apply Kd.V_alloc | apply Kd.V_drewN | apply Kd.V_drew)); exact HO326.out) hb)
 have n1_ := Aside0.mk (Kd.V_below (by (with_reducible repeat (first | apply Kd.V_alloc | apply Kd.V_drewN | apply Kd.V_drew)); exact HO329.out) hb)
 have n2_ := Aside0.mk (Kd.V_below (by (with_reducible repeat (first | apply Kd.V_alloc | apply Kd.V_drewN | apply Kd.V_drew)); exact HO333.out) hb)
 have n3_ := Aside0.mk (Kd.V_lower (Kd.V_mono (ok' := fun k_ => (w.heap.size ≤ k_) ∧ k_ ≠ gb320 ∧ k_ ≠ gb321 ∧ k_ ≠ gb322 ∧ k_ ≠ gb323) ho0 (fun k_ hk_ => ⟨Or.elim hk_ (fun hs_ => hs_.1) (fun hn_ => (Nat.le_trans (below_size (by repeat (first | (with_reducible first | exact HB.out | apply below_alloc | apply pw_below_drewN | apply below_drew1 | refine below_set ?_ GE320.out | refine below_set ?_ GE321.out | refine below_set ?_ GE322.out | refine below_set ?_ GE323.out) | exact HB.out))) hn_)), Or.elim hk_ (fun hs_ => hs_.2.1) (fun hn_ => (Kd.freshB (g := gb320) (o := .cells #[.bool a0_0, .slice A0_1 l0_1.length c0_1] 27 (0, 0)) (by (with_reducible repeat (first | refine blk_drewN ?_ _ | refine blk_drew ?_ | refine blk_alloc ?_ _)); exact BK320.out) k_ hn_)), Or.elim hk_ (fun hs_ => hs_.2.2.1) (fun hn_ => (Kd.freshB (g := gb321) (o := .cells #[.bool a1_0, .slice A1_1 l1_1.length c1_1] 27 (0, 0)) (by (with_reducible repeat (first | refine blk_drewN ?_ _ | refine blk_drew ?_ | refine blk_alloc ?_ _)); exact BK321.out) k_ hn_)), Or.elim hk_ (fun hs_ => hs_.2.2.2.1) (fun hn_ => (Kd.freshB (g := gb322) (o := .cells #[.bool false, .slice none 0 0] 27 (0, 0)) (by (with_reducible repeat (first | refine blk_drewN ?_ _ | refine blk_drew ?_ | refine blk_alloc ?_ _)); exact BK322.out) k_ hn_)), Or.elim hk_ (fun hs_ => hs_.2.2.2.2) (fun hn_ => (Kd.freshB (g := gb323) (o := .cells #[.bool false, .slice none 0 0] 27 (0, 0)) (by (with_reducible repeat (first | refine blk_drewN ?_ _ | refine blk_drew ?_ | refine blk_alloc ?_ _)); exact BK323.out) k_ hn_))⟩)) (below_size (by repeat (first | (with_reducible first | exact HB.out | apply below_alloc | apply pw_below_drewN | apply below_drew1 | refine below_set ?_ GE320.out | refine below_set ?_ GE321.out | refine below_set ?_ GE322.out | refine below_set ?_ GE323.out) | exact HB.out))))
 have n4_ := Aside0.mk (blk_below (g := gb320) (o := .cells #[.bool a0_0, .slice A0_1 l0_1.length c0_1] 27 (0, 0)) (by (with_reducible repeat (first | refine blk_drewN ?_ _ | refine blk_drew ?_ | refine blk_alloc ?_ _)); exact BK320.out) hb)
 have n5_ := Aside0.mk (blk_below (g := gb321) (o := .cells #[.bool a1_0, .slice A1_1 l1_1.length c1_1] 27 (0, 0)) (by (with_reducible repeat (first | refine blk_drewN ?_ _ | refine blk_drew ?_ | refine blk_alloc ?_ _)); exact BK321.out) hb)
 have n6_ := Aside0.mk (blk_below (g := gb322) (o := .cells #[.bool false, .slice none 0 0] 27 (0, 0)) (by (with_reducible repeat (first | refine blk_drewN ?_ _ | refine blk_drew ?_ | refine blk_alloc ?_ _)); exact BK322.out) hb)
 have n7_ := Aside0.mk (blk_below (g := gb323) (o := .cells #[.bool false, .slice none 0 0] 27 (0, 0)) (by (with_reducible repeat (first | refine blk_drewN ?_ _ | refine blk_drew ?_ | refine blk_alloc ?_ _)); exact BK323.out) hb)
 have n8_ := Aside0.mk (below_step (by repeat (first | (with_reducible first | exact HB.out | apply below_alloc | apply pw_below_drewN | apply below_drew1 | refine below_set ?_ GE320.out | refine below_set ?_ GE321.out | refine below_set ?_ GE322.out | refine below_set ?_ GE323.out) | exact HB.out)) hb)
 clear HO326 HO329 HO333 BK320 BK321 BK322 BK323 HB
 have HO326 := n0_
 have HO329 := n1_
 have HO333 := n2_
 have HO337 := n3_
 have BK320 := n4_
 have BK321 := n5_
 have BK322 := n6_
 have BK323 := n7_
 have HB := n8_
 clear n0_ n1_ n2_ n3_ n4_ n5_ n6_ n7_ n8_
 (try clear hb)
 (try clear hb2)
 (try clear hk)
 (try clear hi)
 (try clear ho0)
 obtain ⟨Ao24, co24, eo24⟩ := Kd.V_slice HO333.out
 (first | subst eo24 | (injection eo24 with f1_ f2_ f3_; have f4_ := f1_.symm; have f5_ := f3_.symm; clear f1_ f2_ f3_; subst f4_; subst f5_))
 obtain ⟨Ao27, co27, eo27⟩ := Kd.V_slice HO337.out
 (first | subst eo27 | (injection eo27 with f1_ f2_ f3_; have f4_ := f1_.symm; have f5_ := f3_.symm; clear f1_ f2_ f3_; subst f4_; subst f5_))
 refine hK.out _ _ ⟨(blk_cell BK320.out 0).trans rfl, (blk_cell BK320.out 1).trans rfl, (blk_cell BK321.out 0).trans rfl, (blk_cell BK321.out 1).trans rfl⟩ (fun hHeld => ?_)
 clear hK K
 refine norm_ (a' := ?_) ?_ ?_
 rotate_left
 ·show Act.put _ (some 26) _ = _
  simp only [Act.put, List.setIfInBounds_toArray, List.set_cons_zero, List.set_cons_succ, i64_w, i32_w]
  rfl
 refine one_ (i := 11) (N := none) #[true, true, true, true, true, true, true, true, true, true, true, true, false] rfl rfl (one_of HT_.out (by kernel_rfl)) (by decide) (fun K hK => ?_)
 have hs23 : w22.cell? ⟨gb322, 0, none⟩ = some (.bool false) := (blk_cell BK322.out 0).trans rfl
 have hfs23 := blk_frozen BK322.out 0
 have hns23_0 := NB320_322.out
 have hns23_1 := NB321_322.out
 have hns23_3 := NB323_322.out
 have hms23_0 := NB322_320.out
 have hms23_1 := NB322_321.out
 have hms23_3 := NB322_323.out
 have hs25 : w22.cell? ⟨gb322, 1, none⟩ = some (.slice none 0 0) := (blk_cell BK322.out 1).trans rfl
 have hfs25 := blk_frozen BK322.out 1
 have hns25_0 := NB320_322.out
 have hns25_1 := NB321_322.out
 have hns25_3 := NB323_322.out
 have hms25_0 := NB322_320.out
 have hms25_1 := NB322_321.out
 have hms25_3 := NB322_323.out
 refine skip_ (w1 := ?_) (by rfl) rfl ?_ ?_
 rotate_left
 ·go_simp
  rfl
 refine hK.out _ _ ⟨((cell_far (p := ⟨gb322, _, none⟩) NB320_322.out _).trans (((cell_far (p := ⟨gb322, _, none⟩) NB320_322.out _).trans (hHeld.1)))), ((cell_far (p := ⟨gb322, _, none⟩) NB320_322.out _).trans (((cell_far (p := ⟨gb322, _, none⟩) NB320_322.out _).trans (hHeld.2.1)))), ((cell_far (p := ⟨gb322, _, none⟩) NB321_322.out _).trans (((cell_far (p := ⟨gb322, _, none⟩) NB321_322.out _).trans (hHeld.2.2.1)))), ((cell_far (p := ⟨gb322, _, none⟩) NB321_322.out _).trans (((cell_far (p := ⟨gb322, _, none⟩) NB321_322.out _).trans (hHeld.2.2.2))))⟩ (fun hHeld => ?_)
 clear hK K
 refine one_ (i := 12) (N := none) #[true, true, true, true, true, true, true, true, true, true, true, true, true] rfl rfl (one_of HT_.out (by kernel_rfl)) (by decide) (fun K hK => ?_)
 have hs26 : w22.cell? ⟨gb323, 0, none⟩ = some (.bool false) := (blk_cell BK323.out 0).trans rfl
 have hfs26 := blk_frozen BK323.out 0
 have hns26_0 := NB320_323.out
 have hns26_1 := NB321_323.out
 have hns26_2 := NB322_323.out
 have hms26_0 := NB323_320.out
 have hms26_1 := NB323_321.out
 have hms26_2 := NB323_322.out
 have hs28 : w22.cell? ⟨gb323, 1, none⟩ = some (.slice none 0 0) := (blk_cell BK323.out 1).trans rfl
 have hfs28 := blk_frozen BK323.out 1
 have hns28_0 := NB320_323.out
 have hns28_1 := NB321_323.out
 have hns28_2 := NB322_323.out
 have hms28_0 := NB323_320.out
 have hms28_1 := NB323_321.out
 have hms28_2 := NB323_322.out
 refine skip_ (w1 := ?_) (by rfl) rfl ?_ ?_
 rotate_left
 ·go_simp
  rfl
 refine hK.out _ _ ⟨((cell_far (p := ⟨gb323, _, none⟩) NB320_323.out _).trans (((cell_far (p := ⟨gb323, _, none⟩) NB320_323.out _).trans (hHeld.1)))), ((cell_far (p := ⟨gb323, _, none⟩) NB320_323.out _).trans (((cell_far (p := ⟨gb323, _, none⟩) NB320_323.out _).trans (hHeld.2.1)))), ((cell_far (p := ⟨gb323, _, none⟩) NB321_323.out _).trans (((cell_far (p := ⟨gb323, _, none⟩) NB321_323.out _).trans (hHeld.2.2.1)))), ((cell_far (p := ⟨gb323, _, none⟩) NB321_323.out _).trans (((cell_far (p := ⟨gb323, _, none⟩) NB321_323.out _).trans (hHeld.2.2.2))))⟩ (fun hHeld => ?_)
 clear hK K
 refine done_ (done_of HT_.out (by kernel_rfl)) ?_
 try go_wp2
 refine bodyPost_ret (results_cc rfl _ _ gb322 gb323 27 27 #[.bool t330, .slice Ao24 t331.length co24] #[.bool t334, .slice Ao27 t335.length co27] (0, 0) (0, 0) _ _ rfl (by (with_reducible repeat (first | refine blk_drewN ?_ _ | refine blk_drew ?_ | refine blk_alloc ?_ _)); refine blk_far ?_ NB322_323.out _; (with_reducible repeat (first | refine blk_drewN ?_ _ | refine blk_drew ?_ | refine blk_alloc ?_ _)); refine blk_far ?_ NB322_323.out _; (with_reducible repeat (first | refine blk_drewN ?_ _ | refine blk_drew ?_ | refine blk_alloc ?_ _)); refine blk_put (cs := #[.bool t330, .slice none 0 0]) ?_ 1 _ rfl; (with_reducible repeat (first | refine blk_drewN ?_ _ | refine blk_drew ?_ | refine blk_alloc ?_ _)); refine blk_put (cs := #[.bool false, .slice none 0 0]) ?_ 0 _ rfl; (with_reducible repeat (first | refine blk_drewN ?_ _ | refine blk_drew ?_ | refine blk_alloc ?_ _)); exact BK322.out) Tryz.underlying27 rfl (by kernel_rfl) rfl (by (with_reducible repeat (first | refine blk_drewN ?_ _ | refine blk_drew ?_ | refine blk_alloc ?_ _)); refine blk_put (cs := #[.bool t334, .slice none 0 0]) ?_ 1 _ rfl; (with_reducible repeat (first | refine blk_drewN ?_ _ | refine blk_drew ?_ | refine blk_alloc ?_ _)); refine blk_put (cs := #[.bool false, .slice none 0 0]) ?_ 0 _ rfl; (with_reducible repeat (first | refine blk_drewN ?_ _ | refine blk_drew ?_ | refine blk_alloc ?_ _)); refine blk_far ?_ NB323_322.out _; (with_reducible repeat (first | refine blk_drewN ?_ _ | refine blk_drew ?_ | refine blk_alloc ?_ _)); refine blk_far ?_ NB323_322.out _; (with_reducible repeat (first | refine blk_drewN ?_ _ | refine blk_drew ?_ | refine blk_alloc ?_ _)); exact BK323.out) Tryz.underlying27 rfl (by kernel_rfl)) rfl ?_
 exact ⟨_, _, by first | rfl | (simp [errW_none, errW_some] <;> rfl) | (simp [*, errW_none, errW_some] <;> rfl), by (with_reducible repeat (first | apply Kd.V_alloc | apply Kd.V_drewN | apply Kd.V_drew)); exact Kd.V_mono (Kd.V_far (p := ⟨gb323, 1, none⟩) (Kd.V_far (p := ⟨gb323, 0, none⟩) (Kd.V_far (p := ⟨gb322, 1, none⟩) (Kd.V_far (p := ⟨gb322, 0, none⟩) (Kd.V_mono (Kd.V_mono HO333.out (fun k_ hk => (⟨hk, hk.2.2.2.1⟩ : _ ∧ k_ ≠ gb322))) (fun k_ hk => (⟨hk, hk.1.2.2.2.2⟩ : _ ∧ k_ ≠ gb323))) (fun _ hk => hk.1.2) (.bool t330)) (fun _ hk => hk.1.2) (.slice Ao24 t331.length co24)) (fun _ hk => hk.2) (.bool t334)) (fun _ hk => hk.2) (.slice Ao27 t335.length co27)) (fun _ hk => hk.1.1.1), by (with_reducible repeat (first | apply Kd.V_alloc | apply Kd.V_drewN | apply Kd.V_drew)); exact Kd.V_mono (Kd.V_far (p := ⟨gb323, 1, none⟩) (Kd.V_far (p := ⟨gb323, 0, none⟩) (Kd.V_far (p := ⟨gb322, 1, none⟩) (Kd.V_far (p := ⟨gb322, 0, none⟩) (Kd.V_mono (Kd.V_mono HO337.out (fun k_ hk => (⟨hk, hk.2.2.2.1⟩ : _ ∧ k_ ≠ gb322))) (fun k_ hk => (⟨hk, hk.1.2.2.2.2⟩ : _ ∧ k_ ≠ gb323))) (fun _ hk => hk.1.2) (.bool t330)) (fun _ hk => hk.1.2) (.slice Ao24 t331.length co24)) (fun _ hk => hk.2) (.bool t334)) (fun _ hk => hk.2) (.slice Ao27 t335.length co27)) (fun _ hk => hk.1.1.1), by repeat (first | (with_reducible first | exact HB.out | apply below_alloc | apply pw_below_drewN | apply below_drew1 | refine below_set ?_ GE320.out | refine below_set ?_ GE321.out | refine below_set ?_ GE322.out | refine below_set ?_ GE323.out) | exact HB.out)⟩

end Go.Proofs.YtgomeiepiajpeaaGreat.Q
