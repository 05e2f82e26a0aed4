-- written by programs of ours (wip/tools) out of the kit's printer: the functions of one law, less those that are shared or proved by hand
import Derived.Test.YtgccaabpckfhlaaHJ
import Derived.Test.YtgccaabpckfhlaaQ0
import Derived.Test.YtgccaabpckfhlaaQJFa
namespace Go.Proofs.Ytgccaabpckfhlaa.Q
open Go.RowKit Go.Proofs.YtgccaabpckfhlaaW.PrintWords Go.Proofs.YtgccaabpckfhlaaW.PrintLast Go.Proofs.YtgccaabpckfhlaaW.PrintMore
attribute [local go_sem] max2_int min2_int max_two min_two max_three min_three max_four min_four
set_option linter.unusedVariables false
set_option linter.unusedSimpArgs false

/-! ### laws_FnJoinFixed: function 3 -/
mutual
def laws_FnJoinFixed.j0 : Nat → List (S28) → Int → Bool → Option (Bool)
  | 0, _, _, _ => none
  | k + 1, x0, x1, x7 => if (x0.length : Int) > 20 then (laws_FnJoinFixed.j1 k x0 x1 x7 ([] : List Int) true) else (if (x0.length : Int) = 0 then (laws_FnJoinFixed.j1 k x0 x1 x7 ([] : List Int) true) else (if x1 < 1 then (laws_FnJoinFixed.j1 k x0 x1 x7 ([] : List Int) true) else (laws_FnJoinFixed.j1 k x0 x1 x7 ([] : List Int) (decide (x1 > 32)))))
def laws_FnJoinFixed.j1 : Nat → List (S28) → Int → Bool → List Int → Bool → Option (Bool)
  | 0, _, _, _, _, _ => none
  | k + 1, x0, x1, x7, x8, x44 => if x44 = true then (some x7) else (laws_FnJoinFixed.l0 k x0 x1 x7 x8 x0 (x0.length : Int) 0)
def laws_FnJoinFixed.l0 : Nat → List (S28) → Int → Bool → List Int → List (S28) → Int → Int → Option (Bool)
  | 0, _, _, _, _, _, _, _ => none
  | k + 1, x0, x1, x7, x8, x46, x47, x48 => if x48 < x47 then (if 0 ≤ x48 then (if x48 < (x46.length : Int) then (if ((rd_T28 x46 x48).f0 = true) then (if ((rd_T28 x46 x48).f2) < 0 then (some x7) else (if ((rd_T28 x46 x48).f3) < 0 then (some x7) else (if ((rd_T28 x46 x48).f2) > 200 then (some x7) else (if ((rd_T28 x46 x48).f3) > 200 then (some x7) else (if (wrap64 ((wrap64 (((rd_T28 x46 x48).f2) + ((rd_T28 x46 x48).f3))) * x1)) > (((rd_T28 x46 x48).f1).length : Int) then (some x7) else (if 0 ≤ (wrap64 (((rd_T28 x46 x48).f2) * x1)) then (if (wrap64 (((rd_T28 x46 x48).f2) * x1)) ≤ (wrap64 ((wrap64 (((rd_T28 x46 x48).f2) + ((rd_T28 x46 x48).f3))) * x1)) then (if (wrap64 ((wrap64 (((rd_T28 x46 x48).f2) + ((rd_T28 x46 x48).f3))) * x1)) ≤ (((rd_T28 x46 x48).f1).length : Int) then (if x8.length + ((((rd_T28 x46 x48).f1).take ((wrap64 ((wrap64 (((rd_T28 x46 x48).f2) + ((rd_T28 x46 x48).f3))) * x1)) : Int).toNat).drop ((wrap64 (((rd_T28 x46 x48).f2) * x1)) : Int).toNat).length < 140737488355328 then (laws_FnJoinFixed.l0 k x0 x1 x7 (x8 ++ ((((rd_T28 x46 x48).f1).take ((wrap64 ((wrap64 (((rd_T28 x46 x48).f2) + ((rd_T28 x46 x48).f3))) * x1)) : Int).toNat).drop ((wrap64 (((rd_T28 x46 x48).f2) * x1)) : Int).toNat)) x46 x47 (wrap64 (x48 + 1))) else (none)) else (none)) else (none)) else (none))))))) else (some x7)) else (none)) else (none)) else ((impl_JoinFixed.f x0 x1).bind fun bt136 => (if bt136.2 = true then ((laws_sameBytes.f bt136.1 x8).bind fun t140 => (if t140 = true then (some x7) else (some false))) else (some false)))
end
def laws_FnJoinFixed.f (k : Nat) (l0 : List (S28)) (a1 : Int) : Option (Bool) := (laws_zzFits13.f k l0).bind fun t115 => (if t115 = true then ((impl_JoinFixed.f (([(⟨true, (([1, 2] : List Int)), 1, 1⟩ : S28)] : List (S28))) 1).bind fun bt122 => (if bt122.2 = true then ((laws_sameBytes.f bt122.1 (([2] : List Int))).bind fun t129 => (laws_FnJoinFixed.j0 k l0 a1 t129)) else (laws_FnJoinFixed.j0 k l0 a1 false))) else (some true))
theorem laws_FnJoinFixed.mono_l : ∀ k, (∀ y0 y1 y2, LeO (laws_FnJoinFixed.j0 k y0 y1 y2) (laws_FnJoinFixed.j0 (k + 1) y0 y1 y2)) ∧ (∀ y0 y1 y2 y3 y4, LeO (laws_FnJoinFixed.j1 k y0 y1 y2 y3 y4) (laws_FnJoinFixed.j1 (k + 1) y0 y1 y2 y3 y4)) ∧ (∀ y0 y1 y2 y3 y4 y5 y6, LeO (laws_FnJoinFixed.l0 k y0 y1 y2 y3 y4 y5 y6) (laws_FnJoinFixed.l0 (k + 1) y0 y1 y2 y3 y4 y5 y6))
  | 0 => ⟨fun _ _ _ r h => by simp [laws_FnJoinFixed.j0] at h, fun _ _ _ _ _ r h => by simp [laws_FnJoinFixed.j1] at h, fun _ _ _ _ _ _ _ r h => by simp [laws_FnJoinFixed.l0] at h⟩
  | k + 1 => by
    obtain ⟨ih0, ih1, ih2⟩ := laws_FnJoinFixed.mono_l k
    refine ⟨?_, ?_, ?_⟩
    · intro y0 y1 y2
      unfold laws_FnJoinFixed.j0
      repeat' first
      | (with_reducible exact ih0 _ _ _)
      | (with_reducible exact ih1 _ _ _ _ _)
      | (with_reducible exact ih2 _ _ _ _ _ _ _)
      | (with_reducible exact laws_zzFits13.mono _ _)
      | (with_reducible exact LeO.refl _)
      | (with_reducible exact LeO.none _)
      | (with_reducible refine LeO.ite ?_ ?_)
      | (with_reducible refine LeO.bind ?_ (fun _ => ?_))
      | exact ih0 _ _ _
      | exact ih1 _ _ _ _ _
      | exact ih2 _ _ _ _ _ _ _
      | exact laws_zzFits13.mono _ _
      | exact LeO.none _
      | refine LeO.ite ?_ ?_
      | refine LeO.bind ?_ (fun _ => ?_)
    · intro y0 y1 y2 y3 y4
      unfold laws_FnJoinFixed.j1
      repeat' first
      | (with_reducible exact ih0 _ _ _)
      | (with_reducible exact ih1 _ _ _ _ _)
      | (with_reducible exact ih2 _ _ _ _ _ _ _)
      | (with_reducible exact laws_zzFits13.mono _ _)
      | (with_reducible exact LeO.refl _)
      | (with_reducible exact LeO.none _)
      | (with_reducible refine LeO.ite ?_ ?_)
      | (with_reducible refine LeO.bind ?_ (fun _ => ?_))
      | exact ih0 _ _ _
      | exact ih1 _ _ _ _ _
      | exact ih2 _ _ _ _ _ _ _
      | exact laws_zzFits13.mono _ _
      | exact LeO.none _
      | refine LeO.ite ?_ ?_
      | refine LeO.bind ?_ (fun _ => ?_)
    · intro y0 y1 y2 y3 y4 y5 y6
      unfold laws_FnJoinFixed.l0
      repeat' first
      | (with_reducible exact ih0 _ _ _)
      | (with_reducible exact ih1 _ _ _ _ _)
      | (with_reducible exact ih2 _ _ _ _ _ _ _)
      | (with_reducible exact laws_zzFits13.mono _ _)
      | (with_reducible exact LeO.refl _)
      | (with_reducible exact LeO.none _)
      | (with_reducible refine LeO.ite ?_ ?_)
      | (with_reducible refine LeO.bind ?_ (fun _ => ?_))
      | exact ih0 _ _ _
      | exact ih1 _ _ _ _ _
      | exact ih2 _ _ _ _ _ _ _
      | exact laws_zzFits13.mono _ _
      | exact LeO.none _
      | refine LeO.ite ?_ ?_
      | refine LeO.bind ?_ (fun _ => ?_)
theorem laws_FnJoinFixed.mono : ∀ a0 a1 k, LeO (laws_FnJoinFixed.f k a0 a1) (laws_FnJoinFixed.f (k + 1) a0 a1) := by
  intro a0 a1 k
  obtain ⟨ih0, ih1, ih2⟩ := laws_FnJoinFixed.mono_l k
  unfold laws_FnJoinFixed.f
  repeat' first
      | (with_reducible exact ih0 _ _ _)
      | (with_reducible exact ih1 _ _ _ _ _)
      | (with_reducible exact ih2 _ _ _ _ _ _ _)
      | (with_reducible exact laws_zzFits13.mono _ _)
      | (with_reducible exact LeO.refl _)
      | (with_reducible exact LeO.none _)
      | (with_reducible refine LeO.ite ?_ ?_)
      | (with_reducible refine LeO.bind ?_ (fun _ => ?_))
      | exact ih0 _ _ _
      | exact ih1 _ _ _ _ _
      | exact ih2 _ _ _ _ _ _ _
      | exact laws_zzFits13.mono _ _
      | exact LeO.none _
      | refine LeO.ite ?_ ?_
      | refine LeO.bind ?_ (fun _ => ?_)
set_option maxHeartbeats 8000000 in
set_option maxRecDepth 100000 in
theorem laws_FnJoinFixed.calls (k : Nat) (A0 : Option Addr) (c0 : Nat) (l0 : List (S28)) (a1 : Int) (r : Bool) (w : World) (hr0 : Kd.C k28 w A0 l0.length l0) (hc0 : l0.length ≤ c0) (h : laws_FnJoinFixed.f k l0 a1 = some r) :
    Calls Try.prog 3 #[.slice A0 l0.length c0, .int .i64 a1] w fun e w' => e = .returned (.bool r) ∧ Below w.heap.size w w' := by
  have hu28 := Try.underlying28
  have HR0 := Aside0.mk hr0
  have HC0 := Aside0.mk hc0
  clear hr0 hc0
  have HB := Aside0.mk (Below.refl w.heap.size w)
  have H : ((laws_zzFits13.f k l0).bind fun t115 => (if t115 = true then ((impl_JoinFixed.f (([(⟨true, (([1, 2] : List Int)), 1, 1⟩ : S28)] : List (S28))) 1).bind fun bt122 => (if bt122.2 = true then ((laws_sameBytes.f bt122.1 (([2] : List Int))).bind fun t129 => (laws_FnJoinFixed.j0 k l0 a1 t129)) else (laws_FnJoinFixed.j0 k l0 a1 false))) else (some true))) = some r := h
  clear h
  replace H := Option.bind_eq_some_iff.mp H
  obtain ⟨t115, A30, H⟩ := H
  replace H : (if t115 = true then ((impl_JoinFixed.f (([(⟨true, (([1, 2] : List Int)), 1, 1⟩ : S28)] : List (S28))) 1).bind fun bt122 => (if bt122.2 = true then ((laws_sameBytes.f bt122.1 (([2] : List Int))).bind fun t129 => (laws_FnJoinFixed.j0 k l0 a1 t129)) else (laws_FnJoinFixed.j0 k l0 a1 false))) else (some true)) = some r := H
  have A3 := Aside0.mk A30
  clear A30
  by_cases c4 : t115 = true
  · subst c4
    have H1 : ((impl_JoinFixed.f (([(⟨true, (([1, 2] : List Int)), 1, 1⟩ : S28)] : List (S28))) 1).bind fun bt122 => (if bt122.2 = true then ((laws_sameBytes.f bt122.1 (([2] : List Int))).bind fun t129 => (laws_FnJoinFixed.j0 k l0 a1 t129)) else (laws_FnJoinFixed.j0 k l0 a1 false))) = some r := by rw [if_pos rfl] at H; exact H
    clear H
    have H := H1
    clear H1
    obtain ⟨y116, hy116⟩ : ∃ y_ : List Int, y_ = (([1, 2] : List Int)) := ⟨_, rfl⟩
    replace H : ((impl_JoinFixed.f (([(⟨true, y116, 1, 1⟩ : S28)] : List (S28))) 1).bind fun bt122 => (if bt122.2 = true then ((laws_sameBytes.f bt122.1 (([2] : List Int))).bind fun t129 => (laws_FnJoinFixed.j0 k l0 a1 t129)) else (laws_FnJoinFixed.j0 k l0 a1 false))) = some r := by first | (rw [hy116]; with_reducible exact H) | (have H2_ := (Option.bind_some _ _).symm.trans H; rw [hy116]; with_reducible exact H2_) | (have H2_ := (Option.bind_some _ _).symm.trans H; with_reducible exact H2_) | with_reducible exact H | (rw [hy116]; exact H) | exact H
    have Ny116 := Aside0.mk hy116
    clear hy116
    obtain ⟨y119, hy119⟩ : ∃ y_ : List (S28), y_ = (([(⟨true, y116, 1, 1⟩ : S28)] : List (S28))) := ⟨_, rfl⟩
    replace H : ((impl_JoinFixed.f y119 1).bind fun bt122 => (if bt122.2 = true then ((laws_sameBytes.f bt122.1 (([2] : List Int))).bind fun t129 => (laws_FnJoinFixed.j0 k l0 a1 t129)) else (laws_FnJoinFixed.j0 k l0 a1 false))) = some r := by first | (rw [hy119]; with_reducible exact H) | (have H2_ := (Option.bind_some _ _).symm.trans H; rw [hy119]; with_reducible exact H2_) | (have H2_ := (Option.bind_some _ _).symm.trans H; with_reducible exact H2_) | with_reducible exact H | (rw [hy119]; exact H) | exact H
    have Ny119 := Aside0.mk hy119
    clear hy119
    replace H := Option.bind_eq_some_iff.mp H
    obtain ⟨⟨t122, t123⟩, A50, H⟩ := H
    replace H : (if t123 = true then ((laws_sameBytes.f t122 (([2] : List Int))).bind fun t129 => (laws_FnJoinFixed.j0 k l0 a1 t129)) else (laws_FnJoinFixed.j0 k l0 a1 false)) = some r := H
    have A5 := Aside0.mk A50
    clear A50
    have HC6 := Aside0.mk H
    clear H
    go_enter Try.func3, Try.ntmps3
    go_upto_region 4 with (first | ((with_reducible refine gate_callee (f := 4) rfl ?_); refine goesL_ (some 14) rfl rfl Try.func4 (by kernel_rfl) rfl #[.slice A0 l0.length c0] rfl (by (try simp only [List.map_toArray, List.map_cons, List.map_nil]); first | done | rfl | (simp only [List.length_drop, List.length_take]; rfl)) ?_; (with_reducible refine (laws_zzFits13.calls k _ _ l0 true _ ?side1 ?side2 A3.out).mono ?_); (case side1 => repeat (first | exact HR0.out | (with_reducible refine Kd.C_alloc ?_ _) | (with_reducible refine Kd.C_drewN ?_ _) | (with_reducible refine Kd.C_drew ?_))); (case side2 => exact HC0.out); rintro e w7 ⟨rfl, hb⟩; refine ⟨_, rfl, ?_⟩; have n0_ := Aside0.mk (below_step (by repeat (first | (with_reducible first | exact HB.out | apply below_alloc | apply pw_below_drewN | apply below_drew1) | exact HB.out)) hb); clear HB; have HB := n0_; clear n0_; (try clear hb); (try clear hb2); (try clear hk); (try clear hi)) | ((with_reducible refine gate_dst (N := 17) rfl ?_); (try (refine gate_guard (by rfl) ?_; dsimp only)); refine Kd.R_lit (Kd.int .u8) _ 5 ?hg (N := 17) ?hd (xs := ([1, 2] : List Int)) (inner := [.int .u8 1, .int .u8 2]) (ok := fun _ => True) (okp := fun _ => True) ?hr ?hp (fun _ hk => hk) trivial (Below.refl _ _) (Nat.le_refl _) (by simp) ?_; (case hd => rfl); (case hg => rfl); (case hr => first | (go_simp; done) | (go_simp; rfl)); (case hp => exact (Reps.one (show Kd.M (Kd.int .u8) _ _ _ 1 [.int .u8 1] from rfl) (Reps.one (show Kd.M (Kd.int .u8) _ _ _ 2 [.int .u8 2] from rfl) (Reps.none _ _)))); intro v117 w8 ho9 hb hg_ hnew_; clear hg_ hnew_; (first | rw [← Ny116.out] at ho9 | (simp only [Int.reduceToNat] at ho9; rw [← Ny116.out] at ho9)); have n0_ := Aside0.mk (Kd.R_lower ho9 (below_size (by repeat (first | (with_reducible first | exact HB.out | apply below_alloc | apply pw_below_drewN | apply below_drew1) | exact HB.out)))); have n1_ := Aside0.mk (below_step (by repeat (first | (with_reducible first | exact HB.out | apply below_alloc | apply pw_below_drewN | apply below_drew1) | exact HB.out)) hb); clear HB; have HO118 := n0_; have HB := n1_; clear n0_ n1_; clear hb ho9; obtain ⟨Ao10, co10, eo10⟩ := Kd.R_slice HO118.out; subst eo10) | ((with_reducible refine gate_dst (N := 19) rfl ?_); (try (refine gate_guard (by rfl) ?_; dsimp only)); refine Kd.N_lit k28 _ 28 ?hg (N' := 19) ?hd (xs := ([(⟨true, y116, 1, 1⟩ : S28)] : List (S28))) (inner := [.bool true, .slice Ao10 y116.length co10, .int .i64 1, .int .i64 1]) (ok := (fun _ => True)) (okp := (fun _ => True)) ?hr ?hp (fun _ hk => hk) ((show ∀ k_, w8.heap.size ≤ k_ → (fun _ => True) k_ from fun k_ hk => trivial) _ (Nat.le_refl _)) (Below.refl _ _) (Nat.le_refl _) (by simp) ?_; (case hd => rfl); (case hg => rfl); (case hr => first | (go_simp; done) | (go_simp; rfl)); (case hp => exact (Reps.c4 (show Kd.FK k28 _ _ (⟨true, y116, 1, 1⟩ : S28) [.bool true, .slice Ao10 y116.length co10, .int .i64 1, .int .i64 1] from (k28_mkF _ _ (⟨true, y116, 1, 1⟩ : S28) (Kd.R_reads' (Kd.R_mono (ok' := (fun _ => True)) (HO118.out) (fun k_ hk => trivial))).2.1 (Kd.R_F (Kd.R_mono (ok' := (fun _ => True)) (HO118.out) (fun k_ hk => trivial))))) (Reps.none _ _))); intro v120 w11 ho12 hb hg_ hnew_; clear hg_ hnew_; (first | rw [← Ny119.out] at ho12 | (simp only [Int.reduceToNat] at ho12; rw [← Ny119.out] at ho12)); have n0_ := Aside0.mk (Kd.N_lower ho12 (below_size (by repeat (first | (with_reducible first | exact HB.out | apply below_alloc | apply pw_below_drewN | apply below_drew1) | exact HB.out)))); have n1_ := Aside0.mk (below_step (by repeat (first | (with_reducible first | exact HB.out | apply below_alloc | apply pw_below_drewN | apply below_drew1) | exact HB.out)) hb); clear HB; clear HO118; have HO121 := n0_; have HB := n1_; clear n0_ n1_; clear hb ho12; obtain ⟨Ao13, co13, eo13⟩ := Kd.N_slice HO121.out; subst eo13) | ((with_reducible refine gate_callee (f := 5) rfl ?_); refine goesL_ (some 20) rfl rfl Try.func5 (by kernel_rfl) rfl #[.slice Ao13 y119.length co13, .int .i64 1] rfl (by (try simp only [List.map_toArray, List.map_cons, List.map_nil]); first | done | rfl | (simp only [List.length_drop, List.length_take]; rfl)) ?_; (with_reducible refine (impl_JoinFixed.calls _ _ y119 1 t122 t123 _ ?side1 ?side2 A5.out).mono ?_); (case side1 => repeat (first | exact (Kd.N_reads' HO121.out).2.2 | (with_reducible refine Kd.C_alloc ?_ _) | (with_reducible refine Kd.C_drewN ?_ _) | (with_reducible refine Kd.C_drew ?_))); (case side2 => exact (Kd.N_reads' HO121.out).2.1); rintro e w14 ⟨v124, rfl, ho0, hb⟩; refine ⟨_, rfl, ?_⟩; have n0_ := Aside0.mk (Kd.N_elder' (by (with_reducible repeat (first | apply Kd.N_alloc | apply Kd.N_drewN | apply Kd.N_drew)); exact HO121.out) (Kd.R_base ho0) hb); have n1_ := Aside0.mk (Kd.R_lower ho0 (below_size (by repeat (first | (with_reducible first | exact HB.out | apply below_alloc | apply pw_below_drewN | apply below_drew1) | exact HB.out)))); have n2_ := Aside0.mk (below_step (by repeat (first | (with_reducible first | exact HB.out | apply below_alloc | apply pw_below_drewN | apply below_drew1) | exact HB.out)) hb); clear HO121; clear HB; have HO121 := n0_; have HO125 := n1_; have HB := n2_; clear n0_ n1_ n2_; (try clear hb); (try clear hb2); (try clear hk); (try clear hi); (try clear ho0)))
    (try simp only [Act.put, List.setIfInBounds_toArray, List.set_cons_zero, List.set_cons_succ])
    go_cut [7] (fun v7 wc => ∃ (kq : Nat) (x7_5 : Bool), v7 = .bool x7_5 ∧ Aside0 (laws_FnJoinFixed.j0 kq l0 a1 x7_5 = some r) ∧ Aside0 (kq ≤ k) ∧ Aside0 (Below w.heap.size w wc))
    case first =>
      have H := HC6.out
      clear HC6
      by_cases c15 : t123 = true
      · subst c15
        have H1 : ((laws_sameBytes.f t122 (([2] : List Int))).bind fun t129 => (laws_FnJoinFixed.j0 k l0 a1 t129)) = some r := by rw [if_pos rfl] at H; exact H
        clear H
        have H := H1
        clear H1
        obtain ⟨y126, hy126⟩ : ∃ y_ : List Int, y_ = (([2] : List Int)) := ⟨_, rfl⟩
        replace H : ((laws_sameBytes.f t122 y126).bind fun t129 => (laws_FnJoinFixed.j0 k l0 a1 t129)) = some r := by first | (rw [hy126]; with_reducible exact H) | (have H2_ := (Option.bind_some _ _).symm.trans H; rw [hy126]; with_reducible exact H2_) | (have H2_ := (Option.bind_some _ _).symm.trans H; with_reducible exact H2_) | with_reducible exact H | (rw [hy126]; exact H) | exact H
        have Ny126 := Aside0.mk hy126
        clear hy126
        replace H := Option.bind_eq_some_iff.mp H
        obtain ⟨t129, A160, H⟩ := H
        replace H : (laws_FnJoinFixed.j0 k l0 a1 t129) = some r := H
        have A16 := Aside0.mk A160
        clear A160
        have H' := Aside0.mk H
        clear H
        go_wp2_with (first | ((with_reducible refine gate_dst (N := 26) rfl ?_); (try (refine gate_guard (by rfl) ?_; dsimp only)); refine Kd.R_lit (Kd.int .u8) _ 5 ?hg (N := 26) ?hd (xs := ([2] : List Int)) (inner := [.int .u8 2]) (ok := fun _ => True) (okp := fun _ => True) ?hr ?hp (fun _ hk => hk) trivial (Below.refl _ _) (Nat.le_refl _) (by simp) ?_; (case hd => rfl); (case hg => rfl); (case hr => first | (go_simp; done) | (go_simp; rfl)); (case hp => exact (Reps.one (show Kd.M (Kd.int .u8) _ _ _ 2 [.int .u8 2] from rfl) (Reps.none _ _))); intro v127 w17 ho18 hb hg_ hnew_; clear hg_ hnew_; (first | rw [← Ny126.out] at ho18 | (simp only [Int.reduceToNat] at ho18; rw [← Ny126.out] at ho18)); have n0_ := Aside0.mk (Kd.N_elder' (by (with_reducible repeat (first | apply Kd.N_alloc | apply Kd.N_drewN | apply Kd.N_drew)); exact HO121.out) (Kd.R_base ho18) hb); have n1_ := Aside0.mk (Kd.R_elder' (by (with_reducible repeat (first | apply Kd.R_alloc | apply Kd.R_drewN | apply Kd.R_drew)); exact HO125.out) (Kd.R_base ho18) hb); have n2_ := Aside0.mk (Kd.R_lower (Kd.R_new' ho18 (Kd.R_lt (by (with_reducible repeat (first | apply Kd.R_alloc | apply Kd.R_drewN | apply Kd.R_drew)); exact HO125.out))) (below_size (by repeat (first | (with_reducible first | exact HB.out | apply below_alloc | apply pw_below_drewN | apply below_drew1) | exact HB.out)))); have n3_ := Aside0.mk (below_step (by repeat (first | (with_reducible first | exact HB.out | apply below_alloc | apply pw_below_drewN | apply below_drew1) | exact HB.out)) hb); clear HO121; clear HO125; clear HB; have HO121 := n0_; have HO125 := n1_; have HO128 := n2_; have HB := n3_; clear n0_ n1_ n2_ n3_; clear hb ho18; obtain ⟨Ao19, co19, eo19⟩ := Kd.R_slice HO125.out; subst eo19; obtain ⟨Ao20, co20, eo20⟩ := Kd.R_slice HO128.out; subst eo20) | (go_at_call 6; (with_reducible refine (laws_sameBytes.calls _ _ t122 _ _ y126 t129 _ ?side1 ?side2 ?side3 ?side4 A16.out).mono ?_); (case side1 => repeat (first | exact (Kd.R_reads' HO125.out).2.2 | (with_reducible refine Kd.C_alloc ?_ _) | (with_reducible refine Kd.C_drewN ?_ _) | (with_reducible refine Kd.C_drew ?_))); (case side2 => exact (Kd.R_reads' HO125.out).2.1); (case side3 => repeat (first | exact (Kd.R_reads' HO128.out).2.2 | (with_reducible refine Kd.C_alloc ?_ _) | (with_reducible refine Kd.C_drewN ?_ _) | (with_reducible refine Kd.C_drew ?_))); (case side4 => exact (Kd.R_reads' HO128.out).2.1); rintro e w' ⟨rfl, ⟨nd, rfl⟩⟩))
        go_meet
        case rel => exact ⟨_, (t129), (by first | rfl | (simp; done) | (simp [*]; done)), H', ⟨by first | omega | exact Nat.le_refl _⟩, ⟨by repeat (first | (with_reducible first | exact HB.out | apply below_alloc | apply pw_below_drewN | apply below_drew1) | exact HB.out)⟩⟩
      · replace c15 := Bool.eq_false_iff.mpr c15
        subst c15
        have H1 : (laws_FnJoinFixed.j0 k l0 a1 false) = some r := by rw [if_neg (show ¬ (false = true) by decide)] at H; exact H
        clear H
        have H := H1
        clear H1
        have H' := Aside0.mk H
        clear H
        go_wp2
        go_meet
        case rel => exact ⟨_, (false), (by first | rfl | (simp; done) | (simp [*]; done)), H', ⟨by first | omega | exact Nat.le_refl _⟩, ⟨by repeat (first | (with_reducible first | exact HB.out | apply below_alloc | apply pw_below_drewN | apply below_drew1) | exact HB.out)⟩⟩
    case rest =>
      clear HC6
      try clear c1
      try clear p2
      try clear c3
      try clear c4
      try clear c5
      try clear c15
      obtain ⟨kq, x7_5, rfl, HA, HJ5, HB⟩ := hcut
      cases kq with
      | zero => exact absurd HA.out (by simp [laws_FnJoinFixed.j0])
      | succ kj5 =>
        have H := HA.out
        clear HA
        simp only [laws_FnJoinFixed.j0] at H
        have HC21 := Aside0.mk H
        clear H
        go_upto_region 6 with (fail)
        go_cut [44] (fun v44 wc => ∃ (kq : Nat) (x44_20 : Bool), v44 = .bool x44_20 ∧ Aside0 (laws_FnJoinFixed.j1 kq l0 a1 x7_5 ([] : List Int) x44_20 = some r) ∧ Aside0 (kq ≤ kj5) ∧ Aside0 (Kd.R (Kd.int .u8) 5 wc w.heap.size (fun _ => True) (.slice none 0 0) ([] : List Int)) ∧ Aside0 (Below w.heap.size w wc))
        case first =>
          have H := HC21.out
          clear HC21
          by_cases c22 : (l0.length : Int) > 20
          · rw [if_pos c22] at H
            have c22b0 : decide (20 < (l0.length : Int)) = true := decide_eq_true c22
            have c22b1 : decide (20 < l0.length) = true := decide_eq_true (by omega)
            clear c22
            (first | rw [c22b0] | (simp only [i64_w, i32_w]; rw [c22b0]) | skip)
            have H' := Aside0.mk H
            clear H
            go_wp2
            go_meet
            case rel => exact ⟨_, (true), (by first | rfl | (simp; done) | (simp [*]; done)), H', ⟨by have := HJ5.out; first | omega | exact Nat.le_refl _⟩, ⟨by first | exact Kd.R_nil _ _ _ _ _ | exact Kd.N_nil _ _ _ _ _ | exact Kd.V_nil _ _ _ _ _ | exact Kd.Q_nil _ _ _ _ _ | exact Kd.S_nil _ _ _ _ _⟩, ⟨by repeat (first | (with_reducible first | exact HB.out | apply below_alloc | apply pw_below_drewN | apply below_drew1) | exact HB.out)⟩⟩
          · rw [if_neg c22] at H
            have c22b0 : decide (20 < (l0.length : Int)) = false := decide_eq_false c22
            have c22b1 : decide (20 < l0.length) = false := decide_eq_false (by omega)
            clear c22
            (first | rw [c22b0] | (simp only [i64_w, i32_w]; rw [c22b0]) | skip)
            by_cases c23 : (l0.length : Int) = 0
            · rw [if_pos c23] at H
              have c23b0 : ((l0.length : Int) == 0) = true := beq_iff_eq.mpr c23
              have c23b1 : ((l0.length : Int) != 0) = false := bne_eq_false_iff_eq.mpr c23
              clear c23
              have H' := Aside0.mk H
              clear H
              go_wp2
              go_meet
              case rel => exact ⟨_, (true), (by first | rfl | (simp; done) | (simp [*]; done)), H', ⟨by have := HJ5.out; first | omega | exact Nat.le_refl _⟩, ⟨by first | exact Kd.R_nil _ _ _ _ _ | exact Kd.N_nil _ _ _ _ _ | exact Kd.V_nil _ _ _ _ _ | exact Kd.Q_nil _ _ _ _ _ | exact Kd.S_nil _ _ _ _ _⟩, ⟨by repeat (first | (with_reducible first | exact HB.out | apply below_alloc | apply pw_below_drewN | apply below_drew1) | exact HB.out)⟩⟩
            · rw [if_neg c23] at H
              have c23b0 : ((l0.length : Int) == 0) = false := beq_eq_false_iff_ne.mpr c23
              have c23b1 : ((l0.length : Int) != 0) = true := bne_iff_ne.mpr c23
              have c23b2 : ¬ (l0 = []) := fun h_ => c23 (by rw [h_]; rfl)
              by_cases c24 : a1 < 1
              · rw [if_pos c24] at H
                have c24b0 : decide (a1 < 1) = true := decide_eq_true c24
                clear c24
                have H' := Aside0.mk H
                clear H
                go_wp2
                go_meet
                case rel => exact ⟨_, (true), (by first | rfl | (simp; done) | (simp [*]; done)), H', ⟨by have := HJ5.out; first | omega | exact Nat.le_refl _⟩, ⟨by first | exact Kd.R_nil _ _ _ _ _ | exact Kd.N_nil _ _ _ _ _ | exact Kd.V_nil _ _ _ _ _ | exact Kd.Q_nil _ _ _ _ _ | exact Kd.S_nil _ _ _ _ _⟩, ⟨by repeat (first | (with_reducible first | exact HB.out | apply below_alloc | apply pw_below_drewN | apply below_drew1) | exact HB.out)⟩⟩
              · rw [if_neg c24] at H
                have c24b0 : decide (a1 < 1) = false := decide_eq_false c24
                clear c24
                have H' := Aside0.mk H
                clear H
                go_wp2
                go_meet
                case rel => exact ⟨_, (decide (a1 > 32)), (by first | rfl | (simp; done) | (simp [*]; done)), H', ⟨by have := HJ5.out; first | omega | exact Nat.le_refl _⟩, ⟨by first | exact Kd.R_nil _ _ _ _ _ | exact Kd.N_nil _ _ _ _ _ | exact Kd.V_nil _ _ _ _ _ | exact Kd.Q_nil _ _ _ _ _ | exact Kd.S_nil _ _ _ _ _⟩, ⟨by repeat (first | (with_reducible first | exact HB.out | apply below_alloc | apply pw_below_drewN | apply below_drew1) | exact HB.out)⟩⟩
        case rest =>
          clear HC21
          try clear c1
          try clear c2
          try clear p2
          try clear c3
          try clear c4
          try clear c5
          try clear c15
          try clear c22
          try clear c22b0
          try clear c22b1
          try clear c23
          try clear c23b0
          try clear c23b1
          try clear c23b2
          try clear c24
          try clear c24b0
          try clear p2
          obtain ⟨kq, x44_20, rfl, HA, HJ20, HO_8, HB⟩ := hcut
          cases kq with
          | zero => exact absurd HA.out (by simp [laws_FnJoinFixed.j1])
          | succ kj20 =>
            have H := HA.out
            clear HA
            simp only [laws_FnJoinFixed.j1] at H
            by_cases c25 : x44_20 = true
            · subst c25
              have H1 : (some x7_5) = some r := by rw [if_pos rfl] at H; exact H
              clear H
              have H := H1
              clear H1
              obtain rfl := Option.some.inj H
              go_wp2
              go_ret
              exact ⟨by first | rfl | (simp [errW_none, errW_some] <;> rfl) | (simp [*, errW_none, errW_some] <;> rfl), by repeat (first | (with_reducible first | exact HB.out | apply below_alloc | apply pw_below_drewN | apply below_drew1) | exact HB.out)⟩
            · replace c25 := Bool.eq_false_iff.mpr c25
              subst c25
              have H1 : (laws_FnJoinFixed.l0 kj20 l0 a1 x7_5 ([] : List Int) l0 (l0.length : Int) 0) = some r := by rw [if_neg (show ¬ (false = true) by decide)] at H; exact H
              clear H
              have H := H1
              clear H1
              have H' := Aside0.mk H
              clear H
              go_wp2
              go_loopg [8, 48] kj20 (fun kq v8 v48 w' => ∃ (x8_3 : List Int) (x48_3 : Int), v48 = .int .i64 x48_3 ∧ Aside0 (laws_FnJoinFixed.l0 kq l0 a1 x7_5 x8_3 l0 (l0.length : Int) x48_3 = some r) ∧ Aside0 (kq ≤ kj20) ∧ Aside0 (Kd.R (Kd.int .u8) 5 w' w.heap.size (fun _ => True) v8 x8_3) ∧ Aside0 (Below w.heap.size w w'))
              case atStart => exact ⟨(([] : List Int)), (0), (by first | rfl | (simp; done) | (simp [*]; done)), H', ⟨Nat.le_refl _⟩, ⟨by (with_reducible repeat (first | apply Kd.R_alloc | apply Kd.R_drewN | apply Kd.R_drew)); exact HO_8.out⟩, ⟨by repeat (first | (with_reducible first | exact HB.out | apply below_alloc | apply pw_below_drewN | apply below_drew1) | exact HB.out)⟩⟩
              case round =>
                clear H'
                try clear c1
                try clear c2
                try clear p2
                try clear c3
                try clear c4
                try clear c5
                try clear c15
                try clear c22
                try clear c22b0
                try clear c22b1
                try clear c23
                try clear c23b0
                try clear c23b1
                try clear c23b2
                try clear c24
                try clear c24b0
                try clear c25
                try clear p2
                obtain ⟨x8_3, x48_3, rfl, HA, HK3, HO_8, HB⟩ := hrel
                cases gk with
                | zero => exact absurd HA.out (by simp [laws_FnJoinFixed.l0])
                | succ k3 =>
                  have H := HA.out
                  clear HA
                  simp only [laws_FnJoinFixed.l0] at H
                  by_cases c26 : x48_3 < (l0.length : Int)
                  · rw [if_pos c26] at H
                    have c26b0 : decide (x48_3 < (l0.length : Int)) = true := decide_eq_true c26
                    clear c26
                    by_cases c27 : 0 ≤ x48_3
                    · rw [if_pos c27] at H
                      have c27b0 : decide (0 ≤ x48_3) = true := decide_eq_true c27
                      clear c27
                      by_cases c28 : x48_3 < (l0.length : Int)
                      · rw [if_pos c28] at H
                        have c28b0 : decide (x48_3 < (l0.length : Int)) = true := decide_eq_true c28
                        clear c28
                        obtain ⟨bq29, hbq29⟩ : ∃ b_ : Bool, b_ = ((rd_T28 l0 x48_3).f0) := ⟨_, rfl⟩
                        replace H : (if (bq29 = true) then (if ((rd_T28 l0 x48_3).f2) < 0 then (some x7_5) else (if ((rd_T28 l0 x48_3).f3) < 0 then (some x7_5) else (if ((rd_T28 l0 x48_3).f2) > 200 then (some x7_5) else (if ((rd_T28 l0 x48_3).f3) > 200 then (some x7_5) else (if (wrap64 ((wrap64 (((rd_T28 l0 x48_3).f2) + ((rd_T28 l0 x48_3).f3))) * a1)) > (((rd_T28 l0 x48_3).f1).length : Int) then (some x7_5) else (if 0 ≤ (wrap64 (((rd_T28 l0 x48_3).f2) * a1)) then (if (wrap64 (((rd_T28 l0 x48_3).f2) * a1)) ≤ (wrap64 ((wrap64 (((rd_T28 l0 x48_3).f2) + ((rd_T28 l0 x48_3).f3))) * a1)) then (if (wrap64 ((wrap64 (((rd_T28 l0 x48_3).f2) + ((rd_T28 l0 x48_3).f3))) * a1)) ≤ (((rd_T28 l0 x48_3).f1).length : Int) then (if x8_3.length + ((((rd_T28 l0 x48_3).f1).take ((wrap64 ((wrap64 (((rd_T28 l0 x48_3).f2) + ((rd_T28 l0 x48_3).f3))) * a1)) : Int).toNat).drop ((wrap64 (((rd_T28 l0 x48_3).f2) * a1)) : Int).toNat).length < 140737488355328 then (laws_FnJoinFixed.l0 k3 l0 a1 x7_5 (x8_3 ++ ((((rd_T28 l0 x48_3).f1).take ((wrap64 ((wrap64 (((rd_T28 l0 x48_3).f2) + ((rd_T28 l0 x48_3).f3))) * a1)) : Int).toNat).drop ((wrap64 (((rd_T28 l0 x48_3).f2) * a1)) : Int).toNat)) l0 (l0.length : Int) (wrap64 (x48_3 + 1))) else (none)) else (none)) else (none)) else (none))))))) else (some x7_5)) = some r := by rw [← hbq29] at H; exact H
                        have Nbq29 := Aside0.mk hbq29
                        clear hbq29
                        by_cases c30 : (bq29 = true)
                        · subst c30
                          have H1 : (if ((rd_T28 l0 x48_3).f2) < 0 then (some x7_5) else (if ((rd_T28 l0 x48_3).f3) < 0 then (some x7_5) else (if ((rd_T28 l0 x48_3).f2) > 200 then (some x7_5) else (if ((rd_T28 l0 x48_3).f3) > 200 then (some x7_5) else (if (wrap64 ((wrap64 (((rd_T28 l0 x48_3).f2) + ((rd_T28 l0 x48_3).f3))) * a1)) > (((rd_T28 l0 x48_3).f1).length : Int) then (some x7_5) else (if 0 ≤ (wrap64 (((rd_T28 l0 x48_3).f2) * a1)) then (if (wrap64 (((rd_T28 l0 x48_3).f2) * a1)) ≤ (wrap64 ((wrap64 (((rd_T28 l0 x48_3).f2) + ((rd_T28 l0 x48_3).f3))) * a1)) then (if (wrap64 ((wrap64 (((rd_T28 l0 x48_3).f2) + ((rd_T28 l0 x48_3).f3))) * a1)) ≤ (((rd_T28 l0 x48_3).f1).length : Int) then (if x8_3.length + ((((rd_T28 l0 x48_3).f1).take ((wrap64 ((wrap64 (((rd_T28 l0 x48_3).f2) + ((rd_T28 l0 x48_3).f3))) * a1)) : Int).toNat).drop ((wrap64 (((rd_T28 l0 x48_3).f2) * a1)) : Int).toNat).length < 140737488355328 then (laws_FnJoinFixed.l0 k3 l0 a1 x7_5 (x8_3 ++ ((((rd_T28 l0 x48_3).f1).take ((wrap64 ((wrap64 (((rd_T28 l0 x48_3).f2) + ((rd_T28 l0 x48_3).f3))) * a1)) : Int).toNat).drop ((wrap64 (((rd_T28 l0 x48_3).f2) * a1)) : Int).toNat)) l0 (l0.length : Int) (wrap64 (x48_3 + 1))) else (none)) else (none)) else (none)) else (none))))))) = some r := by rw [if_pos rfl] at H; exact H
                          clear H
                          have H := H1
                          clear H1
                          by_cases c31 : ((rd_T28 l0 x48_3).f2) < 0
                          · rw [if_pos c31] at H
                            have c31b0 : decide (((rd_T28 l0 x48_3).f2) < 0) = true := decide_eq_true c31
                            clear c31
                            obtain rfl := Option.some.inj H
                            have p130 : 0 ≤ (x48_3 : Int) := of_decide_eq_true (by first | (with_reducible assumption) | assumption)
                            have q130 : x48_3 < (l0.length : Int) := of_decide_eq_true (by first | (with_reducible assumption) | assumption)
                            obtain ⟨ad130, A130_1, c130_1, e130, hx130_0, hx130_1, hx130_2, hx130_3, hl130_1, hi130_1⟩ := at_T28 HR0.out x48_3 p130 q130
                            (try rw [← Nbq29.out] at hx130_0)
                            cases e130
                            replace hx130_0 := (HB.out.cell (World.block_lt_of_cell? w _ hx130_0)).trans hx130_0
                            replace hx130_1 := (HB.out.cell (World.block_lt_of_cell? w _ hx130_1)).trans hx130_1
                            replace hx130_2 := (HB.out.cell (World.block_lt_of_cell? w _ hx130_2)).trans hx130_2
                            replace hx130_3 := (HB.out.cell (World.block_lt_of_cell? w _ hx130_3)).trans hx130_3
                            have HR130_1 := Aside0.mk hi130_1
                            have HC130_1 := Aside0.mk hl130_1
                            clear hi130_1 hl130_1
                            replace p130 := eq_true p130
                            replace q130 := eq_true q130
                            go_wp2_with (first | ((with_reducible refine gate_dst (N := 10) rfl ?_); (try (refine gate_guard (by rfl) ?_; dsimp only)); refine box_event ?hg (N := 10) ?hd (cs := #[.bool false, .slice none 0 0, .int .i64 0, .int .i64 0]) (t := 28) ?hr ?_; (case hd => rfl); (case hg => rfl); (case hr => first | (go_simp; done) | (go_simp; rfl)); intro gb131 hg w32 hbox hb; have n0_ := Aside0.mk (Kd.R_below (by (with_reducible repeat (first | apply Kd.R_alloc | apply Kd.R_drewN | apply Kd.R_drew)); exact HO_8.out) hb); have n1_ := Aside0.mk (below_step (by repeat (first | (with_reducible first | exact HB.out | apply below_alloc | apply pw_below_drewN | apply below_drew1) | exact HB.out)) hb); have n2_ := Aside0.mk (hbox); have n3_ := Aside0.mk ((by rw [hg]; exact (below_size (by repeat (first | (with_reducible first | exact HB.out | apply below_alloc | apply pw_below_drewN | apply below_drew1) | exact HB.out))) : w.heap.size ≤ gb131)); have n4_ := Aside0.mk ((by rw [hg]; exact (below_size (by repeat (first | (with_reducible first | exact HB.out | apply below_alloc | apply pw_below_drewN | apply below_drew1) | exact HB.out))) : w.heap.size ≤ gb131)); clear HO_8; clear HB; have HO_8 := n0_; have HB := n1_; have BK131 := n2_; have GW131 := n3_; have GE131 := n4_; clear n0_ n1_ n2_ n3_ n4_; clear hb hbox hg; have hcz33_0 : w32.cell? ⟨gb131, 0, none⟩ = some (.bool false) := (blk_cell BK131.out 0).trans rfl; have hcz33_1 : w32.cell? ⟨gb131, 1, none⟩ = some (.slice none 0 0) := (blk_cell BK131.out 1).trans rfl; have hcz33_2 : w32.cell? ⟨gb131, 2, none⟩ = some (.int .i64 0) := (blk_cell BK131.out 2).trans rfl; have hcz33_3 : w32.cell? ⟨gb131, 3, none⟩ = some (.int .i64 0) := (blk_cell BK131.out 3).trans rfl; have hfz33_0 := blk_frozen BK131.out 0; have hfz33_1 := blk_frozen BK131.out 1; have hfz33_2 := blk_frozen BK131.out 2; have hfz33_3 := blk_frozen BK131.out 3))
                            go_ret
                            exact ⟨by first | rfl | (simp [errW_none, errW_some] <;> rfl) | (simp [*, errW_none, errW_some] <;> rfl), by repeat (first | (with_reducible first | exact HB.out | apply below_alloc | apply pw_below_drewN | apply below_drew1 | refine below_set ?_ GE131.out) | exact HB.out)⟩
                          · rw [if_neg c31] at H
                            have c31b0 : decide (((rd_T28 l0 x48_3).f2) < 0) = false := decide_eq_false c31
                            clear c31
                            by_cases c34 : ((rd_T28 l0 x48_3).f3) < 0
                            · rw [if_pos c34] at H
                              have c34b0 : decide (((rd_T28 l0 x48_3).f3) < 0) = true := decide_eq_true c34
                              clear c34
                              obtain rfl := Option.some.inj H
                              have p130 : 0 ≤ (x48_3 : Int) := of_decide_eq_true (by first | (with_reducible assumption) | assumption)
                              have q130 : x48_3 < (l0.length : Int) := of_decide_eq_true (by first | (with_reducible assumption) | assumption)
                              obtain ⟨ad130, A130_1, c130_1, e130, hx130_0, hx130_1, hx130_2, hx130_3, hl130_1, hi130_1⟩ := at_T28 HR0.out x48_3 p130 q130
                              (try rw [← Nbq29.out] at hx130_0)
                              cases e130
                              replace hx130_0 := (HB.out.cell (World.block_lt_of_cell? w _ hx130_0)).trans hx130_0
                              replace hx130_1 := (HB.out.cell (World.block_lt_of_cell? w _ hx130_1)).trans hx130_1
                              replace hx130_2 := (HB.out.cell (World.block_lt_of_cell? w _ hx130_2)).trans hx130_2
                              replace hx130_3 := (HB.out.cell (World.block_lt_of_cell? w _ hx130_3)).trans hx130_3
                              have HR130_1 := Aside0.mk hi130_1
                              have HC130_1 := Aside0.mk hl130_1
                              clear hi130_1 hl130_1
                              replace p130 := eq_true p130
                              replace q130 := eq_true q130
                              go_wp2_with (first | ((with_reducible refine gate_dst (N := 10) rfl ?_); (try (refine gate_guard (by rfl) ?_; dsimp only)); refine box_event ?hg (N := 10) ?hd (cs := #[.bool false, .slice none 0 0, .int .i64 0, .int .i64 0]) (t := 28) ?hr ?_; (case hd => rfl); (case hg => rfl); (case hr => first | (go_simp; done) | (go_simp; rfl)); intro gb131 hg w35 hbox hb; have n0_ := Aside0.mk (Kd.R_below (by (with_reducible repeat (first | apply Kd.R_alloc | apply Kd.R_drewN | apply Kd.R_drew)); exact HO_8.out) hb); have n1_ := Aside0.mk (below_step (by repeat (first | (with_reducible first | exact HB.out | apply below_alloc | apply pw_below_drewN | apply below_drew1) | exact HB.out)) hb); have n2_ := Aside0.mk (hbox); have n3_ := Aside0.mk ((by rw [hg]; exact (below_size (by repeat (first | (with_reducible first | exact HB.out | apply below_alloc | apply pw_below_drewN | apply below_drew1) | exact HB.out))) : w.heap.size ≤ gb131)); have n4_ := Aside0.mk ((by rw [hg]; exact (below_size (by repeat (first | (with_reducible first | exact HB.out | apply below_alloc | apply pw_below_drewN | apply below_drew1) | exact HB.out))) : w.heap.size ≤ gb131)); clear HO_8; clear HB; have HO_8 := n0_; have HB := n1_; have BK131 := n2_; have GW131 := n3_; have GE131 := n4_; clear n0_ n1_ n2_ n3_ n4_; clear hb hbox hg; have hcz36_0 : w35.cell? ⟨gb131, 0, none⟩ = some (.bool false) := (blk_cell BK131.out 0).trans rfl; have hcz36_1 : w35.cell? ⟨gb131, 1, none⟩ = some (.slice none 0 0) := (blk_cell BK131.out 1).trans rfl; have hcz36_2 : w35.cell? ⟨gb131, 2, none⟩ = some (.int .i64 0) := (blk_cell BK131.out 2).trans rfl; have hcz36_3 : w35.cell? ⟨gb131, 3, none⟩ = some (.int .i64 0) := (blk_cell BK131.out 3).trans rfl; have hfz36_0 := blk_frozen BK131.out 0; have hfz36_1 := blk_frozen BK131.out 1; have hfz36_2 := blk_frozen BK131.out 2; have hfz36_3 := blk_frozen BK131.out 3))
                              go_ret
                              exact ⟨by first | rfl | (simp [errW_none, errW_some] <;> rfl) | (simp [*, errW_none, errW_some] <;> rfl), by repeat (first | (with_reducible first | exact HB.out | apply below_alloc | apply pw_below_drewN | apply below_drew1 | refine below_set ?_ GE131.out) | exact HB.out)⟩
                            · rw [if_neg c34] at H
                              have c34b0 : decide (((rd_T28 l0 x48_3).f3) < 0) = false := decide_eq_false c34
                              clear c34
                              by_cases c37 : ((rd_T28 l0 x48_3).f2) > 200
                              · rw [if_pos c37] at H
                                have c37b0 : decide (200 < ((rd_T28 l0 x48_3).f2)) = true := decide_eq_true c37
                                clear c37
                                obtain rfl := Option.some.inj H
                                have p130 : 0 ≤ (x48_3 : Int) := of_decide_eq_true (by first | (with_reducible assumption) | assumption)
                                have q130 : x48_3 < (l0.length : Int) := of_decide_eq_true (by first | (with_reducible assumption) | assumption)
                                obtain ⟨ad130, A130_1, c130_1, e130, hx130_0, hx130_1, hx130_2, hx130_3, hl130_1, hi130_1⟩ := at_T28 HR0.out x48_3 p130 q130
                                (try rw [← Nbq29.out] at hx130_0)
                                cases e130
                                replace hx130_0 := (HB.out.cell (World.block_lt_of_cell? w _ hx130_0)).trans hx130_0
                                replace hx130_1 := (HB.out.cell (World.block_lt_of_cell? w _ hx130_1)).trans hx130_1
                                replace hx130_2 := (HB.out.cell (World.block_lt_of_cell? w _ hx130_2)).trans hx130_2
                                replace hx130_3 := (HB.out.cell (World.block_lt_of_cell? w _ hx130_3)).trans hx130_3
                                have HR130_1 := Aside0.mk hi130_1
                                have HC130_1 := Aside0.mk hl130_1
                                clear hi130_1 hl130_1
                                replace p130 := eq_true p130
                                replace q130 := eq_true q130
                                go_wp2_with (first | ((with_reducible refine gate_dst (N := 10) rfl ?_); (try (refine gate_guard (by rfl) ?_; dsimp only)); refine box_event ?hg (N := 10) ?hd (cs := #[.bool false, .slice none 0 0, .int .i64 0, .int .i64 0]) (t := 28) ?hr ?_; (case hd => rfl); (case hg => rfl); (case hr => first | (go_simp; done) | (go_simp; rfl)); intro gb131 hg w38 hbox hb; have n0_ := Aside0.mk (Kd.R_below (by (with_reducible repeat (first | apply Kd.R_alloc | apply Kd.R_drewN | apply Kd.R_drew)); exact HO_8.out) hb); have n1_ := Aside0.mk (below_step (by repeat (first | (with_reducible first | exact HB.out | apply below_alloc | apply pw_below_drewN | apply below_drew1) | exact HB.out)) hb); have n2_ := Aside0.mk (hbox); have n3_ := Aside0.mk ((by rw [hg]; exact (below_size (by repeat (first | (with_reducible first | exact HB.out | apply below_alloc | apply pw_below_drewN | apply below_drew1) | exact HB.out))) : w.heap.size ≤ gb131)); have n4_ := Aside0.mk ((by rw [hg]; exact (below_size (by repeat (first | (with_reducible first | exact HB.out | apply below_alloc | apply pw_below_drewN | apply below_drew1) | exact HB.out))) : w.heap.size ≤ gb131)); clear HO_8; clear HB; have HO_8 := n0_; have HB := n1_; have BK131 := n2_; have GW131 := n3_; have GE131 := n4_; clear n0_ n1_ n2_ n3_ n4_; clear hb hbox hg; have hcz39_0 : w38.cell? ⟨gb131, 0, none⟩ = some (.bool false) := (blk_cell BK131.out 0).trans rfl; have hcz39_1 : w38.cell? ⟨gb131, 1, none⟩ = some (.slice none 0 0) := (blk_cell BK131.out 1).trans rfl; have hcz39_2 : w38.cell? ⟨gb131, 2, none⟩ = some (.int .i64 0) := (blk_cell BK131.out 2).trans rfl; have hcz39_3 : w38.cell? ⟨gb131, 3, none⟩ = some (.int .i64 0) := (blk_cell BK131.out 3).trans rfl; have hfz39_0 := blk_frozen BK131.out 0; have hfz39_1 := blk_frozen BK131.out 1; have hfz39_2 := blk_frozen BK131.out 2; have hfz39_3 := blk_frozen BK131.out 3))
                                go_ret
                                exact ⟨by first | rfl | (simp [errW_none, errW_some] <;> rfl) | (simp [*, errW_none, errW_some] <;> rfl), by repeat (first | (with_reducible first | exact HB.out | apply below_alloc | apply pw_below_drewN | apply below_drew1 | refine below_set ?_ GE131.out) | exact HB.out)⟩
                              · rw [if_neg c37] at H
                                have c37b0 : decide (200 < ((rd_T28 l0 x48_3).f2)) = false := decide_eq_false c37
                                clear c37
                                by_cases c40 : ((rd_T28 l0 x48_3).f3) > 200
                                · rw [if_pos c40] at H
                                  have c40b0 : decide (200 < ((rd_T28 l0 x48_3).f3)) = true := decide_eq_true c40
                                  clear c40
                                  obtain rfl := Option.some.inj H
                                  have p130 : 0 ≤ (x48_3 : Int) := of_decide_eq_true (by first | (with_reducible assumption) | assumption)
                                  have q130 : x48_3 < (l0.length : Int) := of_decide_eq_true (by first | (with_reducible assumption) | assumption)
                                  obtain ⟨ad130, A130_1, c130_1, e130, hx130_0, hx130_1, hx130_2, hx130_3, hl130_1, hi130_1⟩ := at_T28 HR0.out x48_3 p130 q130
                                  (try rw [← Nbq29.out] at hx130_0)
                                  cases e130
                                  replace hx130_0 := (HB.out.cell (World.block_lt_of_cell? w _ hx130_0)).trans hx130_0
                                  replace hx130_1 := (HB.out.cell (World.block_lt_of_cell? w _ hx130_1)).trans hx130_1
                                  replace hx130_2 := (HB.out.cell (World.block_lt_of_cell? w _ hx130_2)).trans hx130_2
                                  replace hx130_3 := (HB.out.cell (World.block_lt_of_cell? w _ hx130_3)).trans hx130_3
                                  have HR130_1 := Aside0.mk hi130_1
                                  have HC130_1 := Aside0.mk hl130_1
                                  clear hi130_1 hl130_1
                                  replace p130 := eq_true p130
                                  replace q130 := eq_true q130
                                  go_wp2_with (first | ((with_reducible refine gate_dst (N := 10) rfl ?_); (try (refine gate_guard (by rfl) ?_; dsimp only)); refine box_event ?hg (N := 10) ?hd (cs := #[.bool false, .slice none 0 0, .int .i64 0, .int .i64 0]) (t := 28) ?hr ?_; (case hd => rfl); (case hg => rfl); (case hr => first | (go_simp; done) | (go_simp; rfl)); intro gb131 hg w41 hbox hb; have n0_ := Aside0.mk (Kd.R_below (by (with_reducible repeat (first | apply Kd.R_alloc | apply Kd.R_drewN | apply Kd.R_drew)); exact HO_8.out) hb); have n1_ := Aside0.mk (below_step (by repeat (first | (with_reducible first | exact HB.out | apply below_alloc | apply pw_below_drewN | apply below_drew1) | exact HB.out)) hb); have n2_ := Aside0.mk (hbox); have n3_ := Aside0.mk ((by rw [hg]; exact (below_size (by repeat (first | (with_reducible first | exact HB.out | apply below_alloc | apply pw_below_drewN | apply below_drew1) | exact HB.out))) : w.heap.size ≤ gb131)); have n4_ := Aside0.mk ((by rw [hg]; exact (below_size (by repeat (first | (with_reducible first | exact HB.out | apply below_alloc | apply pw_below_drewN | apply below_drew1) | exact HB.out))) : w.heap.size ≤ gb131)); clear HO_8; clear HB; have HO_8 := n0_; have HB := n1_; have BK131 := n2_; have GW131 := n3_; have GE131 := n4_; clear n0_ n1_ n2_ n3_ n4_; clear hb hbox hg; have hcz42_0 : w41.cell? ⟨gb131, 0, none⟩ = some (.bool false) := (blk_cell BK131.out 0).trans rfl; have hcz42_1 : w41.cell? ⟨gb131, 1, none⟩ = some (.slice none 0 0) := (blk_cell BK131.out 1).trans rfl; have hcz42_2 : w41.cell? ⟨gb131, 2, none⟩ = some (.int .i64 0) := (blk_cell BK131.out 2).trans rfl; have hcz42_3 : w41.cell? ⟨gb131, 3, none⟩ = some (.int .i64 0) := (blk_cell BK131.out 3).trans rfl; have hfz42_0 := blk_frozen BK131.out 0; have hfz42_1 := blk_frozen BK131.out 1; have hfz42_2 := blk_frozen BK131.out 2; have hfz42_3 := blk_frozen BK131.out 3))
                                  go_ret
                                  exact ⟨by first | rfl | (simp [errW_none, errW_some] <;> rfl) | (simp [*, errW_none, errW_some] <;> rfl), by repeat (first | (with_reducible first | exact HB.out | apply below_alloc | apply pw_below_drewN | apply below_drew1 | refine below_set ?_ GE131.out) | exact HB.out)⟩
                                · rw [if_neg c40] at H
                                  have c40b0 : decide (200 < ((rd_T28 l0 x48_3).f3)) = false := decide_eq_false c40
                                  clear c40
                                  by_cases c43 : (wrap64 ((wrap64 (((rd_T28 l0 x48_3).f2) + ((rd_T28 l0 x48_3).f3))) * a1)) > (((rd_T28 l0 x48_3).f1).length : Int)
                                  · rw [if_pos c43] at H
                                    have c43b0 : decide ((((rd_T28 l0 x48_3).f1).length : Int) < (wrap64 ((wrap64 (((rd_T28 l0 x48_3).f2) + ((rd_T28 l0 x48_3).f3))) * a1))) = true := decide_eq_true c43
                                    clear c43
                                    obtain rfl := Option.some.inj H
                                    have p130 : 0 ≤ (x48_3 : Int) := of_decide_eq_true (by first | (with_reducible assumption) | assumption)
                                    have q130 : x48_3 < (l0.length : Int) := of_decide_eq_true (by first | (with_reducible assumption) | assumption)
                                    obtain ⟨ad130, A130_1, c130_1, e130, hx130_0, hx130_1, hx130_2, hx130_3, hl130_1, hi130_1⟩ := at_T28 HR0.out x48_3 p130 q130
                                    (try rw [← Nbq29.out] at hx130_0)
                                    cases e130
                                    replace hx130_0 := (HB.out.cell (World.block_lt_of_cell? w _ hx130_0)).trans hx130_0
                                    replace hx130_1 := (HB.out.cell (World.block_lt_of_cell? w _ hx130_1)).trans hx130_1
                                    replace hx130_2 := (HB.out.cell (World.block_lt_of_cell? w _ hx130_2)).trans hx130_2
                                    replace hx130_3 := (HB.out.cell (World.block_lt_of_cell? w _ hx130_3)).trans hx130_3
                                    have HR130_1 := Aside0.mk hi130_1
                                    have HC130_1 := Aside0.mk hl130_1
                                    clear hi130_1 hl130_1
                                    replace p130 := eq_true p130
                                    replace q130 := eq_true q130
                                    go_wp2_with (first | ((with_reducible refine gate_dst (N := 10) rfl ?_); (try (refine gate_guard (by rfl) ?_; dsimp only)); refine box_event ?hg (N := 10) ?hd (cs := #[.bool false, .slice none 0 0, .int .i64 0, .int .i64 0]) (t := 28) ?hr ?_; (case hd => rfl); (case hg => rfl); (case hr => first | (go_simp; done) | (go_simp; rfl)); intro gb131 hg w44 hbox hb; have n0_ := Aside0.mk (Kd.R_below (by (with_reducible repeat (first | apply Kd.R_alloc | apply Kd.R_drewN | apply Kd.R_drew)); exact HO_8.out) hb); have n1_ := Aside0.mk (below_step (by repeat (first | (with_reducible first | exact HB.out | apply below_alloc | apply pw_below_drewN | apply below_drew1) | exact HB.out)) hb); have n2_ := Aside0.mk (hbox); have n3_ := Aside0.mk ((by rw [hg]; exact (below_size (by repeat (first | (with_reducible first | exact HB.out | apply below_alloc | apply pw_below_drewN | apply below_drew1) | exact HB.out))) : w.heap.size ≤ gb131)); have n4_ := Aside0.mk ((by rw [hg]; exact (below_size (by repeat (first | (with_reducible first | exact HB.out | apply below_alloc | apply pw_below_drewN | apply below_drew1) | exact HB.out))) : w.heap.size ≤ gb131)); clear HO_8; clear HB; have HO_8 := n0_; have HB := n1_; have BK131 := n2_; have GW131 := n3_; have GE131 := n4_; clear n0_ n1_ n2_ n3_ n4_; clear hb hbox hg; have hcz45_0 : w44.cell? ⟨gb131, 0, none⟩ = some (.bool false) := (blk_cell BK131.out 0).trans rfl; have hcz45_1 : w44.cell? ⟨gb131, 1, none⟩ = some (.slice none 0 0) := (blk_cell BK131.out 1).trans rfl; have hcz45_2 : w44.cell? ⟨gb131, 2, none⟩ = some (.int .i64 0) := (blk_cell BK131.out 2).trans rfl; have hcz45_3 : w44.cell? ⟨gb131, 3, none⟩ = some (.int .i64 0) := (blk_cell BK131.out 3).trans rfl; have hfz45_0 := blk_frozen BK131.out 0; have hfz45_1 := blk_frozen BK131.out 1; have hfz45_2 := blk_frozen BK131.out 2; have hfz45_3 := blk_frozen BK131.out 3))
                                    go_ret
                                    exact ⟨by first | rfl | (simp [errW_none, errW_some] <;> rfl) | (simp [*, errW_none, errW_some] <;> rfl), by repeat (first | (with_reducible first | exact HB.out | apply below_alloc | apply pw_below_drewN | apply below_drew1 | refine below_set ?_ GE131.out) | exact HB.out)⟩
                                  · rw [if_neg c43] at H
                                    have c43b0 : decide ((((rd_T28 l0 x48_3).f1).length : Int) < (wrap64 ((wrap64 (((rd_T28 l0 x48_3).f2) + ((rd_T28 l0 x48_3).f3))) * a1))) = false := decide_eq_false c43
                                    clear c43
                                    obtain ⟨ji46, hji46⟩ : ∃ j_ : Int, (wrap64 (((rd_T28 l0 x48_3).f2) * a1)) = j_ := ⟨_, rfl⟩
                                    replace H : (if 0 ≤ (ji46) then (if (ji46) ≤ (wrap64 ((wrap64 (((rd_T28 l0 x48_3).f2) + ((rd_T28 l0 x48_3).f3))) * a1)) then (if (wrap64 ((wrap64 (((rd_T28 l0 x48_3).f2) + ((rd_T28 l0 x48_3).f3))) * a1)) ≤ (((rd_T28 l0 x48_3).f1).length : Int) then (if x8_3.length + ((((rd_T28 l0 x48_3).f1).take ((wrap64 ((wrap64 (((rd_T28 l0 x48_3).f2) + ((rd_T28 l0 x48_3).f3))) * a1)) : Int).toNat).drop ((ji46) : Int).toNat).length < 140737488355328 then (laws_FnJoinFixed.l0 k3 l0 a1 x7_5 (x8_3 ++ ((((rd_T28 l0 x48_3).f1).take ((wrap64 ((wrap64 (((rd_T28 l0 x48_3).f2) + ((rd_T28 l0 x48_3).f3))) * a1)) : Int).toNat).drop ((ji46) : Int).toNat)) l0 (l0.length : Int) (wrap64 (x48_3 + 1))) else (none)) else (none)) else (none)) else (none)) = some r := by first | (rw [hji46] at H; exact H) | (simp only [hji46] at H ⊢; exact H)
                                    have hji46w : (IntKind.i64.wrap (((rd_T28 l0 x48_3).f2) * a1)) = ji46 := (i64_w _).trans hji46
                                    by_cases c47 : 0 ≤ (ji46)
                                    · rw [if_pos c47] at H
                                      have c47b0 := eq_true c47
                                      have c47b1 : decide (0 ≤ (ji46)) = true := decide_eq_true c47
                                      clear c47
                                      by_cases c48 : (ji46) ≤ (wrap64 ((wrap64 (((rd_T28 l0 x48_3).f2) + ((rd_T28 l0 x48_3).f3))) * a1))
                                      · rw [if_pos c48] at H
                                        have c48b0 := eq_true c48
                                        have c48b1 : decide ((ji46) ≤ (wrap64 ((wrap64 (((rd_T28 l0 x48_3).f2) + ((rd_T28 l0 x48_3).f3))) * a1))) = true := decide_eq_true c48
                                        by_cases c49 : (wrap64 ((wrap64 (((rd_T28 l0 x48_3).f2) + ((rd_T28 l0 x48_3).f3))) * a1)) ≤ (((rd_T28 l0 x48_3).f1).length : Int)
                                        · rw [if_pos c49] at H
                                          have c49b0 := eq_true c49
                                          have c49b1 : decide ((wrap64 ((wrap64 (((rd_T28 l0 x48_3).f2) + ((rd_T28 l0 x48_3).f3))) * a1)) ≤ (((rd_T28 l0 x48_3).f1).length : Int)) = true := decide_eq_true c49
                                          by_cases c50 : x8_3.length + ((((rd_T28 l0 x48_3).f1).take ((wrap64 ((wrap64 (((rd_T28 l0 x48_3).f2) + ((rd_T28 l0 x48_3).f3))) * a1)) : Int).toNat).drop ((ji46) : Int).toNat).length < 140737488355328
                                          · rw [if_pos c50] at H
                                            have LMc50 := Aside0.mk c50
                                            clear c50
                                            obtain ⟨y133, hy133⟩ : ∃ y_ : List Int, y_ = (x8_3 ++ ((((rd_T28 l0 x48_3).f1).take ((wrap64 ((wrap64 (((rd_T28 l0 x48_3).f2) + ((rd_T28 l0 x48_3).f3))) * a1)) : Int).toNat).drop ((ji46) : Int).toNat)) := ⟨_, rfl⟩
                                            replace H : (laws_FnJoinFixed.l0 k3 l0 a1 x7_5 y133 l0 (l0.length : Int) (wrap64 (x48_3 + 1))) = some r := by first | (rw [hy133]; with_reducible exact H) | (have H2_ := (Option.bind_some _ _).symm.trans H; rw [hy133]; with_reducible exact H2_) | (have H2_ := (Option.bind_some _ _).symm.trans H; with_reducible exact H2_) | with_reducible exact H | (rw [hy133]; exact H) | exact H
                                            have Ny133 := Aside0.mk hy133
                                            clear hy133
                                            have H' := Aside0.mk H
                                            clear H
                                            have p130 : 0 ≤ (x48_3 : Int) := of_decide_eq_true (by first | (with_reducible assumption) | assumption)
                                            have q130 : x48_3 < (l0.length : Int) := of_decide_eq_true (by first | (with_reducible assumption) | assumption)
                                            obtain ⟨ad130, A130_1, c130_1, e130, hx130_0, hx130_1, hx130_2, hx130_3, hl130_1, hi130_1⟩ := at_T28 HR0.out x48_3 p130 q130
                                            (try rw [← Nbq29.out] at hx130_0)
                                            cases e130
                                            replace hx130_0 := (HB.out.cell (World.block_lt_of_cell? w _ hx130_0)).trans hx130_0
                                            replace hx130_1 := (HB.out.cell (World.block_lt_of_cell? w _ hx130_1)).trans hx130_1
                                            replace hx130_2 := (HB.out.cell (World.block_lt_of_cell? w _ hx130_2)).trans hx130_2
                                            replace hx130_3 := (HB.out.cell (World.block_lt_of_cell? w _ hx130_3)).trans hx130_3
                                            have HR130_1 := Aside0.mk hi130_1
                                            have HC130_1 := Aside0.mk hl130_1
                                            clear hi130_1 hl130_1
                                            replace p130 := eq_true p130
                                            replace q130 := eq_true q130
                                            go_wp2_with (first | ((with_reducible refine gate_dst (N := 10) rfl ?_); (try (refine gate_guard (by rfl) ?_; dsimp only)); refine box_event ?hg (N := 10) ?hd (cs := #[.bool false, .slice none 0 0, .int .i64 0, .int .i64 0]) (t := 28) ?hr ?_; (case hd => rfl); (case hg => rfl); (case hr => first | (go_simp; done) | (go_simp; rfl)); intro gb131 hg w51 hbox hb; have n0_ := Aside0.mk (Kd.R_below (by (with_reducible repeat (first | apply Kd.R_alloc | apply Kd.R_drewN | apply Kd.R_drew)); exact HO_8.out) hb); have n1_ := Aside0.mk (below_step (by repeat (first | (with_reducible first | exact HB.out | apply below_alloc | apply pw_below_drewN | apply below_drew1) | exact HB.out)) hb); have n2_ := Aside0.mk (hbox); have n3_ := Aside0.mk ((by rw [hg]; exact (below_size (by repeat (first | (with_reducible first | exact HB.out | apply below_alloc | apply pw_below_drewN | apply below_drew1) | exact HB.out))) : w.heap.size ≤ gb131)); have n4_ := Aside0.mk ((by rw [hg]; exact (below_size (by repeat (first | (with_reducible first | exact HB.out | apply below_alloc | apply pw_below_drewN | apply below_drew1) | exact HB.out))) : w.heap.size ≤ gb131)); clear HO_8; clear HB; have HO_8 := n0_; have HB := n1_; have BK131 := n2_; have GW131 := n3_; have GE131 := n4_; clear n0_ n1_ n2_ n3_ n4_; clear hb hbox hg; have hcz52_0 : w51.cell? ⟨gb131, 0, none⟩ = some (.bool false) := (blk_cell BK131.out 0).trans rfl; have hcz52_1 : w51.cell? ⟨gb131, 1, none⟩ = some (.slice none 0 0) := (blk_cell BK131.out 1).trans rfl; have hcz52_2 : w51.cell? ⟨gb131, 2, none⟩ = some (.int .i64 0) := (blk_cell BK131.out 2).trans rfl; have hcz52_3 : w51.cell? ⟨gb131, 3, none⟩ = some (.int .i64 0) := (blk_cell BK131.out 3).trans rfl; have hfz52_0 := blk_frozen BK131.out 0; have hfz52_1 := blk_frozen BK131.out 1; have hfz52_2 := blk_frozen BK131.out 2; have hfz52_3 := blk_frozen BK131.out 3; obtain ⟨i053, hi053, _, hsz53, _⟩ := info_parts info5; obtain ⟨A53, hcut53, hA53, hC53⟩ := print_mid_of (P := Try.prog) (Value.int .u8) 0 24 5 .i64 .i64 Try.underlying24 hi053 hsz53 A130_1 c130_1 ((rd_T28 l0 x48_3).f1) (ji46) (wrap64 ((wrap64 (((rd_T28 l0 x48_3).f2) + ((rd_T28 l0 x48_3).f3))) * a1)) (of_decide_eq_true (by first | (with_reducible assumption) | assumption)) (by first | omega | exact of_decide_eq_true (by first | (with_reducible assumption) | assumption)) (of_decide_eq_true (by first | (with_reducible assumption) | assumption)) HC130_1.out; have HR132 := Aside0.mk (Kd.C_of_reads (h1 := fun _ => rfl) (hA53 _ (Kd.reads_of_C HR130_1.out))); have HC132 := Aside0.mk hC53; clear hA53 hC53 hi053 hsz53) | ((with_reducible refine gate_builtin (b := .append) (xs := #[.tmp 89, .tmp 103]) rfl ?_); (try (refine gate_guard (by rfl) ?_; dsimp only)); at_builtin; refine Kd.R_append_rows (Kd.int .u8) (w0 := w) w.heap.size rfl (.tmp 89) (.tmp 103) 24 5 (.int .u8 0) 1 rfl Try.underlying24 info5 rfl (by decide) (by omega) u8 x8_3 ((((rd_T28 l0 x48_3).f1).take ((wrap64 ((wrap64 (((rd_T28 l0 x48_3).f2) + ((rd_T28 l0 x48_3).f3))) * a1)) : Int).toNat).drop ((ji46) : Int).toNat) _ _ _ (fun _ => True) (fun _ => False) rfl rfl ?aO ?aR (fun _ _ h => h) (fun _ h => h.elim) ?aF ?aB ?aS ?aL ?_; (case aR => first | (rw [← show ((((rd_T28 l0 x48_3).f1).take ((wrap64 ((wrap64 (((rd_T28 l0 x48_3).f2) + ((rd_T28 l0 x48_3).f3))) * a1)) : Int).toNat).drop ((ji46) : Int).toNat).length = ((wrap64 ((wrap64 (((rd_T28 l0 x48_3).f2) + ((rd_T28 l0 x48_3).f3))) * a1)).toNat - (ji46).toNat) from (by rw [List.length_drop, List.length_take]; have h_ : ((wrap64 ((wrap64 (((rd_T28 l0 x48_3).f2) + ((rd_T28 l0 x48_3).f3))) * a1)) : Int) ≤ (((rd_T28 l0 x48_3).f1).length : Int) := of_decide_eq_true (by first | (with_reducible assumption) | assumption); omega)]; exact Kd.C_below HR132.out (by repeat (first | (with_reducible first | exact HB.out | apply below_alloc | apply pw_below_drewN | apply below_drew1 | refine below_set ?_ GE131.out) | exact HB.out))) | (exact Kd.C_below HR132.out (by repeat (first | (with_reducible first | exact HB.out | apply below_alloc | apply pw_below_drewN | apply below_drew1 | refine below_set ?_ GE131.out) | exact HB.out)))); (case aB => exact (by repeat (first | (with_reducible first | exact HB.out | apply below_alloc | apply pw_below_drewN | apply below_drew1 | refine below_set ?_ GE131.out) | exact HB.out))); (case aF => exact (fun _ _ => trivial)); (case aO => exact (by (with_reducible repeat (first | apply Kd.R_alloc | apply Kd.R_drewN | apply Kd.R_drew)); exact Kd.R_mono (Kd.R_far (p := ⟨gb131, 3, none⟩) (Kd.R_far (p := ⟨gb131, 2, none⟩) (Kd.R_far (p := ⟨gb131, 1, none⟩) (Kd.R_far (p := ⟨gb131, 0, none⟩) (Kd.R_types HO_8.out BK131.out (by decide)) (fun _ hk => hk.2) (.bool true)) (fun _ hk => hk.2) (.slice A130_1 ((rd_T28 l0 x48_3).f1).length c130_1)) (fun _ hk => hk.2) (.int .i64 ((rd_T28 l0 x48_3).f2))) (fun _ hk => hk.2) (.int .i64 ((rd_T28 l0 x48_3).f3))) (fun _ hk => trivial))); (case aS => exact (below_size (by repeat (first | (with_reducible first | exact HB.out | apply below_alloc | apply pw_below_drewN | apply below_drew1 | refine below_set ?_ GE131.out) | exact HB.out)))); (case aL => have := LMc50.out; have hlx_ := (show ((((rd_T28 l0 x48_3).f1).take ((wrap64 ((wrap64 (((rd_T28 l0 x48_3).f2) + ((rd_T28 l0 x48_3).f3))) * a1)) : Int).toNat).drop ((ji46) : Int).toNat).length = ((wrap64 ((wrap64 (((rd_T28 l0 x48_3).f2) + ((rd_T28 l0 x48_3).f3))) * a1)).toNat - (ji46).toNat) from (by rw [List.length_drop, List.length_take]; have h_ : ((wrap64 ((wrap64 (((rd_T28 l0 x48_3).f2) + ((rd_T28 l0 x48_3).f3))) * a1)) : Int) ≤ (((rd_T28 l0 x48_3).f1).length : Int) := of_decide_eq_true (by first | (with_reducible assumption) | assumption); omega)); omega); intro v134 w54 ho hb hg hat; rw [← Ny133.out] at ho; have n0_ := Aside0.mk (blk_grown (g := gb131) (o := .cells #[.bool true, .slice A130_1 ((rd_T28 l0 x48_3).f1).length c130_1, .int .i64 ((rd_T28 l0 x48_3).f2), .int .i64 ((rd_T28 l0 x48_3).f3)] 28 (0, 0)) (by (with_reducible repeat (first | refine blk_drewN ?_ _ | refine blk_drew ?_ | refine blk_alloc ?_ _)); refine blk_put (cs := #[.bool true, .slice A130_1 ((rd_T28 l0 x48_3).f1).length c130_1, .int .i64 ((rd_T28 l0 x48_3).f2), .int .i64 0]) ?_ 3 _ rfl; (with_reducible repeat (first | refine blk_drewN ?_ _ | refine blk_drew ?_ | refine blk_alloc ?_ _)); refine blk_put (cs := #[.bool true, .slice A130_1 ((rd_T28 l0 x48_3).f1).length c130_1, .int .i64 0, .int .i64 0]) ?_ 2 _ rfl; (with_reducible repeat (first | refine blk_drewN ?_ _ | refine blk_drew ?_ | refine blk_alloc ?_ _)); refine blk_put (cs := #[.bool true, .slice none 0 0, .int .i64 0, .int .i64 0]) ?_ 1 _ rfl; (with_reducible repeat (first | refine blk_drewN ?_ _ | refine blk_drew ?_ | refine blk_alloc ?_ _)); refine blk_put (cs := #[.bool false, .slice none 0 0, .int .i64 0, .int .i64 0]) ?_ 0 _ rfl; (with_reducible repeat (first | refine blk_drewN ?_ _ | refine blk_drew ?_ | refine blk_alloc ?_ _)); exact BK131.out) hg (Kd.R_ne HO_8.out BK131.out (by decide))); have n1_ := Aside0.mk (hb); have n2_ := Aside0.mk (ho); clear BK131; clear HB; clear HO_8; have BK131 := n0_; have HB := n1_; have HO135 := n2_; clear n0_ n1_ n2_; clear ho hb hg hat))
                                            go_roundg k3
                                            case measure => have := HJ5.out; have := HJ20.out; have := HK3.out; omega
                                            case rel => exact ⟨(y133), (wrap64 (x48_3 + 1)), (by first | rfl | (simp; done) | (simp [*]; done)), H', ⟨by have := HJ5.out; have := HJ20.out; have := HK3.out; omega⟩, ⟨by (with_reducible repeat (first | apply Kd.R_alloc | apply Kd.R_drewN | apply Kd.R_drew)); exact HO135.out⟩, ⟨by repeat (first | (with_reducible first | exact HB.out | apply below_alloc | apply pw_below_drewN | apply below_drew1 | refine below_set ?_ GE131.out) | exact HB.out)⟩⟩
                                          · rw [if_neg c50] at H
                                            exact absurd H (by simp)
                                        · rw [if_neg c49] at H
                                          exact absurd H (by simp)
                                      · rw [if_neg c48] at H
                                        exact absurd H (by simp)
                                    · rw [if_neg c47] at H
                                      exact absurd H (by simp)
                        · replace c30 := Bool.eq_false_iff.mpr c30
                          subst c30
                          have H1 : (some x7_5) = some r := by rw [if_neg (show ¬ (false = true) by decide)] at H; exact H
                          clear H
                          have H := H1
                          clear H1
                          obtain rfl := Option.some.inj H
                          have p130 : 0 ≤ (x48_3 : Int) := of_decide_eq_true (by first | (with_reducible assumption) | assumption)
                          have q130 : x48_3 < (l0.length : Int) := of_decide_eq_true (by first | (with_reducible assumption) | assumption)
                          obtain ⟨ad130, A130_1, c130_1, e130, hx130_0, hx130_1, hx130_2, hx130_3, hl130_1, hi130_1⟩ := at_T28 HR0.out x48_3 p130 q130
                          (try rw [← Nbq29.out] at hx130_0)
                          cases e130
                          replace hx130_0 := (HB.out.cell (World.block_lt_of_cell? w _ hx130_0)).trans hx130_0
                          replace hx130_1 := (HB.out.cell (World.block_lt_of_cell? w _ hx130_1)).trans hx130_1
                          replace hx130_2 := (HB.out.cell (World.block_lt_of_cell? w _ hx130_2)).trans hx130_2
                          replace hx130_3 := (HB.out.cell (World.block_lt_of_cell? w _ hx130_3)).trans hx130_3
                          have HR130_1 := Aside0.mk hi130_1
                          have HC130_1 := Aside0.mk hl130_1
                          clear hi130_1 hl130_1
                          replace p130 := eq_true p130
                          replace q130 := eq_true q130
                          go_wp2_with (first | ((with_reducible refine gate_dst (N := 10) rfl ?_); (try (refine gate_guard (by rfl) ?_; dsimp only)); refine box_event ?hg (N := 10) ?hd (cs := #[.bool false, .slice none 0 0, .int .i64 0, .int .i64 0]) (t := 28) ?hr ?_; (case hd => rfl); (case hg => rfl); (case hr => first | (go_simp; done) | (go_simp; rfl)); intro gb131 hg w55 hbox hb; have n0_ := Aside0.mk (Kd.R_below (by (with_reducible repeat (first | apply Kd.R_alloc | apply Kd.R_drewN | apply Kd.R_drew)); exact HO_8.out) hb); have n1_ := Aside0.mk (below_step (by repeat (first | (with_reducible first | exact HB.out | apply below_alloc | apply pw_below_drewN | apply below_drew1) | exact HB.out)) hb); have n2_ := Aside0.mk (hbox); have n3_ := Aside0.mk ((by rw [hg]; exact (below_size (by repeat (first | (with_reducible first | exact HB.out | apply below_alloc | apply pw_below_drewN | apply below_drew1) | exact HB.out))) : w.heap.size ≤ gb131)); have n4_ := Aside0.mk ((by rw [hg]; exact (below_size (by repeat (first | (with_reducible first | exact HB.out | apply below_alloc | apply pw_below_drewN | apply below_drew1) | exact HB.out))) : w.heap.size ≤ gb131)); clear HO_8; clear HB; have HO_8 := n0_; have HB := n1_; have BK131 := n2_; have GW131 := n3_; have GE131 := n4_; clear n0_ n1_ n2_ n3_ n4_; clear hb hbox hg; have hcz56_0 : w55.cell? ⟨gb131, 0, none⟩ = some (.bool false) := (blk_cell BK131.out 0).trans rfl; have hcz56_1 : w55.cell? ⟨gb131, 1, none⟩ = some (.slice none 0 0) := (blk_cell BK131.out 1).trans rfl; have hcz56_2 : w55.cell? ⟨gb131, 2, none⟩ = some (.int .i64 0) := (blk_cell BK131.out 2).trans rfl; have hcz56_3 : w55.cell? ⟨gb131, 3, none⟩ = some (.int .i64 0) := (blk_cell BK131.out 3).trans rfl; have hfz56_0 := blk_frozen BK131.out 0; have hfz56_1 := blk_frozen BK131.out 1; have hfz56_2 := blk_frozen BK131.out 2; have hfz56_3 := blk_frozen BK131.out 3))
                          go_ret
                          exact ⟨by first | rfl | (simp [errW_none, errW_some] <;> rfl) | (simp [*, errW_none, errW_some] <;> rfl), by repeat (first | (with_reducible first | exact HB.out | apply below_alloc | apply pw_below_drewN | apply below_drew1 | refine below_set ?_ GE131.out) | exact HB.out)⟩
                      · rw [if_neg c28] at H
                        exact absurd H (by simp)
                    · rw [if_neg c27] at H
                      exact absurd H (by simp)
                  · rw [if_neg c26] at H
                    have c26b0 : decide (x48_3 < (l0.length : Int)) = false := decide_eq_false c26
                    clear c26
                    replace H := Option.bind_eq_some_iff.mp H
                    obtain ⟨⟨t136, t137⟩, A570, H⟩ := H
                    replace H : (if t137 = true then ((laws_sameBytes.f t136 x8_3).bind fun t140 => (if t140 = true then (some x7_5) else (some false))) else (some false)) = some r := H
                    have A57 := Aside0.mk A570
                    clear A570
                    by_cases c58 : t137 = true
                    · subst c58
                      have H1 : ((laws_sameBytes.f t136 x8_3).bind fun t140 => (if t140 = true then (some x7_5) else (some false))) = some r := by rw [if_pos rfl] at H; exact H
                      clear H
                      have H := H1
                      clear H1
                      replace H := Option.bind_eq_some_iff.mp H
                      obtain ⟨t140, A590, H⟩ := H
                      replace H : (if t140 = true then (some x7_5) else (some false)) = some r := H
                      have A59 := Aside0.mk A590
                      clear A590
                      by_cases c60 : t140 = true
                      · subst c60
                        have H1 : (some x7_5) = some r := by rw [if_pos rfl] at H; exact H
                        clear H
                        have H := H1
                        clear H1
                        obtain rfl := Option.some.inj H
                        go_wp2_with (first | ((with_reducible refine gate_callee (f := 5) rfl ?_); refine goesL_ (some 109) rfl rfl Try.func5 (by kernel_rfl) rfl #[.slice A0 l0.length c0, .int .i64 a1] rfl (by (try simp only [List.map_toArray, List.map_cons, List.map_nil]); first | done | rfl | (simp only [List.length_drop, List.length_take]; rfl)) ?_; (with_reducible refine (impl_JoinFixed.calls _ _ l0 a1 t136 true _ ?side1 ?side2 A57.out).mono ?_); (case side1 => repeat (first | exact (Kd.C_below HR0.out HB.out) | (with_reducible refine Kd.C_alloc ?_ _) | (with_reducible refine Kd.C_drewN ?_ _) | (with_reducible refine Kd.C_drew ?_))); (case side2 => exact HC0.out); rintro e w61 ⟨v138, rfl, ho0, hb⟩; refine ⟨_, rfl, ?_⟩; have n0_ := Aside0.mk (Kd.R_elder' (by (with_reducible repeat (first | apply Kd.R_alloc | apply Kd.R_drewN | apply Kd.R_drew)); exact HO_8.out) (Kd.R_base ho0) hb); have n1_ := Aside0.mk (Kd.R_lower (Kd.R_new' ho0 (Kd.R_lt (by (with_reducible repeat (first | apply Kd.R_alloc | apply Kd.R_drewN | apply Kd.R_drew)); exact HO_8.out))) (below_size (by repeat (first | (with_reducible first | exact HB.out | apply below_alloc | apply pw_below_drewN | apply below_drew1) | exact HB.out)))); have n2_ := Aside0.mk (below_step (by repeat (first | (with_reducible first | exact HB.out | apply below_alloc | apply pw_below_drewN | apply below_drew1) | exact HB.out)) hb); clear HO_8; clear HB; have HO_8 := n0_; have HO139 := n1_; have HB := n2_; clear n0_ n1_ n2_; (try clear hb); (try clear hb2); (try clear hk); (try clear hi); (try clear ho0); obtain ⟨Ao62, co62, eo62⟩ := Kd.R_slice HO139.out; subst eo62; obtain ⟨Ao63, co63, eo63⟩ := Kd.R_slice HO_8.out; subst eo63) | (go_at_call 6; (with_reducible refine (laws_sameBytes.calls _ _ t136 _ _ x8_3 true _ ?side1 ?side2 ?side3 ?side4 A59.out).mono ?_); (case side1 => repeat (first | exact (Kd.R_reads' HO139.out).2.2 | (with_reducible refine Kd.C_alloc ?_ _) | (with_reducible refine Kd.C_drewN ?_ _) | (with_reducible refine Kd.C_drew ?_))); (case side2 => exact (Kd.R_reads' HO139.out).2.1); (case side3 => repeat (first | exact (Kd.R_reads' HO_8.out).2.2 | (with_reducible refine Kd.C_alloc ?_ _) | (with_reducible refine Kd.C_drewN ?_ _) | (with_reducible refine Kd.C_drew ?_))); (case side4 => exact (Kd.R_reads' HO_8.out).2.1); rintro e w' ⟨rfl, ⟨nd, rfl⟩⟩))
                        go_ret
                        exact ⟨by first | rfl | (simp [errW_none, errW_some] <;> rfl) | (simp [*, errW_none, errW_some] <;> rfl), by repeat (first | (with_reducible first | exact HB.out | apply below_alloc | apply pw_below_drewN | apply below_drew1) | exact HB.out)⟩
                      · replace c60 := Bool.eq_false_iff.mpr c60
                        subst c60
                        have H1 : (some false) = some r := by rw [if_neg (show ¬ (false = true) by decide)] at H; exact H
                        clear H
                        have H := H1
                        clear H1
                        obtain rfl := Option.some.inj H
                        go_wp2_with (first | ((with_reducible refine gate_callee (f := 5) rfl ?_); refine goesL_ (some 109) rfl rfl Try.func5 (by kernel_rfl) rfl #[.slice A0 l0.length c0, .int .i64 a1] rfl (by (try simp only [List.map_toArray, List.map_cons, List.map_nil]); first | done | rfl | (simp only [List.length_drop, List.length_take]; rfl)) ?_; (with_reducible refine (impl_JoinFixed.calls _ _ l0 a1 t136 true _ ?side1 ?side2 A57.out).mono ?_); (case side1 => repeat (first | exact (Kd.C_below HR0.out HB.out) | (with_reducible refine Kd.C_alloc ?_ _) | (with_reducible refine Kd.C_drewN ?_ _) | (with_reducible refine Kd.C_drew ?_))); (case side2 => exact HC0.out); rintro e w64 ⟨v138, rfl, ho0, hb⟩; refine ⟨_, rfl, ?_⟩; have n0_ := Aside0.mk (Kd.R_elder' (by (with_reducible repeat (first | apply Kd.R_alloc | apply Kd.R_drewN | apply Kd.R_drew)); exact HO_8.out) (Kd.R_base ho0) hb); have n1_ := Aside0.mk (Kd.R_lower (Kd.R_new' ho0 (Kd.R_lt (by (with_reducible repeat (first | apply Kd.R_alloc | apply Kd.R_drewN | apply Kd.R_drew)); exact HO_8.out))) (below_size (by repeat (first | (with_reducible first | exact HB.out | apply below_alloc | apply pw_below_drewN | apply below_drew1) | exact HB.out)))); have n2_ := Aside0.mk (below_step (by repeat (first | (with_reducible first | exact HB.out | apply below_alloc | apply pw_below_drewN | apply below_drew1) | exact HB.out)) hb); clear HO_8; clear HB; have HO_8 := n0_; have HO139 := n1_; have HB := n2_; clear n0_ n1_ n2_; (try clear hb); (try clear hb2); (try clear hk); (try clear hi); (try clear ho0); obtain ⟨Ao65, co65, eo65⟩ := Kd.R_slice HO139.out; subst eo65; obtain ⟨Ao66, co66, eo66⟩ := Kd.R_slice HO_8.out; subst eo66) | (go_at_call 6; (with_reducible refine (laws_sameBytes.calls _ _ t136 _ _ x8_3 false _ ?side1 ?side2 ?side3 ?side4 A59.out).mono ?_); (case side1 => repeat (first | exact (Kd.R_reads' HO139.out).2.2 | (with_reducible refine Kd.C_alloc ?_ _) | (with_reducible refine Kd.C_drewN ?_ _) | (with_reducible refine Kd.C_drew ?_))); (case side2 => exact (Kd.R_reads' HO139.out).2.1); (case side3 => repeat (first | exact (Kd.R_reads' HO_8.out).2.2 | (with_reducible refine Kd.C_alloc ?_ _) | (with_reducible refine Kd.C_drewN ?_ _) | (with_reducible refine Kd.C_drew ?_))); (case side4 => exact (Kd.R_reads' HO_8.out).2.1); rintro e w' ⟨rfl, ⟨nd, rfl⟩⟩))
                        go_ret
                        exact ⟨by first | rfl | (simp [errW_none, errW_some] <;> rfl) | (simp [*, errW_none, errW_some] <;> rfl), by repeat (first | (with_reducible first | exact HB.out | apply below_alloc | apply pw_below_drewN | apply below_drew1) | exact HB.out)⟩
                    · replace c58 := Bool.eq_false_iff.mpr c58
                      subst c58
                      have H1 : (some false) = some r := by rw [if_neg (show ¬ (false = true) by decide)] at H; exact H
                      clear H
                      have H := H1
                      clear H1
                      obtain rfl := Option.some.inj H
                      go_wp2_with (first | ((with_reducible refine gate_callee (f := 5) rfl ?_); refine goesL_ (some 109) rfl rfl Try.func5 (by kernel_rfl) rfl #[.slice A0 l0.length c0, .int .i64 a1] rfl (by (try simp only [List.map_toArray, List.map_cons, List.map_nil]); first | done | rfl | (simp only [List.length_drop, List.length_take]; rfl)) ?_; (with_reducible refine (impl_JoinFixed.calls _ _ l0 a1 t136 false _ ?side1 ?side2 A57.out).mono ?_); (case side1 => repeat (first | exact (Kd.C_below HR0.out HB.out) | (with_reducible refine Kd.C_alloc ?_ _) | (with_reducible refine Kd.C_drewN ?_ _) | (with_reducible refine Kd.C_drew ?_))); (case side2 => exact HC0.out); rintro e w67 ⟨v138, rfl, ho0, hb⟩; refine ⟨_, rfl, ?_⟩; have n0_ := Aside0.mk (Kd.R_elder' (by (with_reducible repeat (first | apply Kd.R_alloc | apply Kd.R_drewN | apply Kd.R_drew)); exact HO_8.out) (Kd.R_base ho0) hb); have n1_ := Aside0.mk (Kd.R_lower (Kd.R_new' ho0 (Kd.R_lt (by (with_reducible repeat (first | apply Kd.R_alloc | apply Kd.R_drewN | apply Kd.R_drew)); exact HO_8.out))) (below_size (by repeat (first | (with_reducible first | exact HB.out | apply below_alloc | apply pw_below_drewN | apply below_drew1) | exact HB.out)))); have n2_ := Aside0.mk (below_step (by repeat (first | (with_reducible first | exact HB.out | apply below_alloc | apply pw_below_drewN | apply below_drew1) | exact HB.out)) hb); clear HO_8; clear HB; have HO_8 := n0_; have HO139 := n1_; have HB := n2_; clear n0_ n1_ n2_; (try clear hb); (try clear hb2); (try clear hk); (try clear hi); (try clear ho0)))
                      go_ret
                      exact ⟨by first | rfl | (simp [errW_none, errW_some] <;> rfl) | (simp [*, errW_none, errW_some] <;> rfl), by repeat (first | (with_reducible first | exact HB.out | apply below_alloc | apply pw_below_drewN | apply below_drew1) | exact HB.out)⟩
  · replace c4 := Bool.eq_false_iff.mpr c4
    subst c4
    have H1 : (some true) = some r := by rw [if_neg (show ¬ (false = true) by decide)] at H; exact H
    clear H
    have H := H1
    clear H1
    obtain rfl := Option.some.inj H
    go_enter Try.func3, Try.ntmps3
    go_wp2_with (first | ((with_reducible refine gate_callee (f := 4) rfl ?_); refine goesL_ (some 14) rfl rfl Try.func4 (by kernel_rfl) rfl #[.slice A0 l0.length c0] rfl (by (try simp only [List.map_toArray, List.map_cons, List.map_nil]); first | done | rfl | (simp only [List.length_drop, List.length_take]; rfl)) ?_; (with_reducible refine (laws_zzFits13.calls k _ _ l0 false _ ?side1 ?side2 A3.out).mono ?_); (case side1 => repeat (first | exact HR0.out | (with_reducible refine Kd.C_alloc ?_ _) | (with_reducible refine Kd.C_drewN ?_ _) | (with_reducible refine Kd.C_drew ?_))); (case side2 => exact HC0.out); rintro e w68 ⟨rfl, hb⟩; refine ⟨_, rfl, ?_⟩; have n0_ := Aside0.mk (below_step (by repeat (first | (with_reducible first | exact HB.out | apply below_alloc | apply pw_below_drewN | apply below_drew1) | exact HB.out)) hb); clear HB; have HB := n0_; clear n0_; (try clear hb); (try clear hb2); (try clear hk); (try clear hi)))
    go_ret
    exact ⟨by first | rfl | (simp [errW_none, errW_some] <;> rfl) | (simp [*, errW_none, errW_some] <;> rfl), by repeat (first | (with_reducible first | exact HB.out | apply below_alloc | apply pw_below_drewN | apply below_drew1) | exact HB.out)⟩

end Go.Proofs.Ytgccaabpckfhlaa.Q
