-- written by programs of ours (wip/tools) out of the kit's printer: the functions of one law, less those that are shared or proved by hand
import Derived.Test.YtcfnniminikmfaaHPI96
import Derived.Test.YtcfnniminikmfaaQ0
import Derived.Test.YtcfnniminikmfaaQPI32a
import Derived.Test.YtcfnniminikmfaaQPI32b
import Derived.Test.YtcfnniminikmfaaQPI32d
namespace Go.Proofs.Ytcfnniminikmfaa.Q
open Go.RowKit Go.Proofs.YtcfnniminikmfaaW.PrintWords Go.Proofs.YtcfnniminikmfaaW.PrintLast Go.Proofs.YtcfnniminikmfaaW.PrintMore
attribute [local go_sem] max2_int min2_int max_two min_two max_three min_three max_four min_four
set_option linter.unusedVariables false
set_option linter.unusedSimpArgs false

/-! ### laws_FnPlainInt96Written: function 7 -/
def laws_FnPlainInt96Written.j0 : Nat → List (List (S29)) → Bool → Option (Bool)
  | 0, _, _ => none
  | k + 1, x0, x5 => (laws_allOf.f k 15 12 false 0 0 0 (⟨#[]⟩ : ByteArray) false ([] : List Int) ([] : List Int) x0).bind fun bt163 => (if bt163.2 = true then ((impl_PlainInt96Written.f x0).bind fun bt167 => (if bt167.2 = true then ((spec_Plainly.f k 15 12 false 0 0 0 (⟨#[]⟩ : ByteArray) false ([] : List Int) ([] : List Int) bt163.1).bind fun t171 => ((laws_sameBytes.f bt167.1 t171).bind fun t174 => (if t174 = true then (some x5) else (some false)))) else (some false))) else (some x5))
def laws_FnPlainInt96Written.f (k : Nat) (l0 : List (List (S29))) : Option (Bool) := if (l0.length : Int) > 2147483647 then (some true) else ((impl_PlainInt96Written.f (([(([(⟨false, 0, (⟨#[97, 98, 99, 100, 101, 102, 103, 104, 105, 106, 107, 108]⟩ : ByteArray), ([] : List (S29))⟩ : S29)] : List (S29)))] : List (List (S29))))).bind fun bt152 => (if bt152.2 = true then ((spec_Plainly.f k 15 12 false 0 0 0 (⟨#[]⟩ : ByteArray) false ([] : List Int) ([] : List Int) (([(⟨false, 0, (⟨#[97, 98, 99, 100, 101, 102, 103, 104, 105, 106, 107, 108]⟩ : ByteArray), ([] : List (S29))⟩ : S29)] : List (S29)))).bind fun t159 => ((laws_sameBytes.f bt152.1 t159).bind fun t162 => (laws_FnPlainInt96Written.j0 k l0 t162))) else (laws_FnPlainInt96Written.j0 k l0 false)))
theorem laws_FnPlainInt96Written.mono_l : ∀ k, (∀ y0 y1, LeO (laws_FnPlainInt96Written.j0 k y0 y1) (laws_FnPlainInt96Written.j0 (k + 1) y0 y1))
  | 0 => fun _ _ r h => by simp [laws_FnPlainInt96Written.j0] at h
  | k + 1 => by
    have ih0 := laws_FnPlainInt96Written.mono_l k
    · intro y0 y1
      unfold laws_FnPlainInt96Written.j0
      repeat' first
      | (with_reducible exact ih0 _ _)
      | (with_reducible exact laws_allOf.mono _ _ _ _ _ _ _ _ _ _ _ _)
      | (with_reducible exact spec_Plainly.mono _ _ _ _ _ _ _ _ _ _ _ _)
      | (with_reducible exact LeO.refl _)
      | (with_reducible exact LeO.none _)
      | (with_reducible refine LeO.ite ?_ ?_)
      | (with_reducible refine LeO.bind ?_ (fun _ => ?_))
      | exact ih0 _ _
      | exact laws_allOf.mono _ _ _ _ _ _ _ _ _ _ _ _
      | exact spec_Plainly.mono _ _ _ _ _ _ _ _ _ _ _ _
      | exact LeO.none _
      | refine LeO.ite ?_ ?_
      | refine LeO.bind ?_ (fun _ => ?_)
theorem laws_FnPlainInt96Written.mono : ∀ a0 k, LeO (laws_FnPlainInt96Written.f k a0) (laws_FnPlainInt96Written.f (k + 1) a0) := by
  intro a0 k
  have ih0 := laws_FnPlainInt96Written.mono_l k
  unfold laws_FnPlainInt96Written.f
  repeat' first
      | (with_reducible exact ih0 _ _)
      | (with_reducible exact laws_allOf.mono _ _ _ _ _ _ _ _ _ _ _ _)
      | (with_reducible exact spec_Plainly.mono _ _ _ _ _ _ _ _ _ _ _ _)
      | (with_reducible exact LeO.refl _)
      | (with_reducible exact LeO.none _)
      | (with_reducible refine LeO.ite ?_ ?_)
      | (with_reducible refine LeO.bind ?_ (fun _ => ?_))
      | exact ih0 _ _
      | exact laws_allOf.mono _ _ _ _ _ _ _ _ _ _ _ _
      | exact spec_Plainly.mono _ _ _ _ _ _ _ _ _ _ _ _
      | exact LeO.none _
      | refine LeO.ite ?_ ?_
      | refine LeO.bind ?_ (fun _ => ?_)
set_option maxHeartbeats 8000000 in
set_option maxRecDepth 100000 in
theorem laws_FnPlainInt96Written.calls (k : Nat) (A0 : Option Addr) (c0 : Nat) (l0 : List (List (S29))) (r : Bool) (w : World) (hr0 : Kd.C (Kd.slice 29 k29) w A0 l0.length l0) (hc0 : l0.length ≤ c0) (h : laws_FnPlainInt96Written.f k l0 = some r) :
    Calls Try.prog 7 #[.slice A0 l0.length c0] w fun e w' => e = .returned (.bool r) ∧ Below w.heap.size w w' := by
  have hu29 := Try.underlying29
  have hu35 := Try.underlying35
  have HR0 := Aside0.mk hr0
  have HC0 := Aside0.mk hc0
  clear hr0 hc0
  have HB := Aside0.mk (Below.refl w.heap.size w)
  have H : (if (l0.length : Int) > 2147483647 then (some true) else ((impl_PlainInt96Written.f (([(([(⟨false, 0, (⟨#[97, 98, 99, 100, 101, 102, 103, 104, 105, 106, 107, 108]⟩ : ByteArray), ([] : List (S29))⟩ : S29)] : List (S29)))] : List (List (S29))))).bind fun bt152 => (if bt152.2 = true then ((spec_Plainly.f k 15 12 false 0 0 0 (⟨#[]⟩ : ByteArray) false ([] : List Int) ([] : List Int) (([(⟨false, 0, (⟨#[97, 98, 99, 100, 101, 102, 103, 104, 105, 106, 107, 108]⟩ : ByteArray), ([] : List (S29))⟩ : S29)] : List (S29)))).bind fun t159 => ((laws_sameBytes.f bt152.1 t159).bind fun t162 => (laws_FnPlainInt96Written.j0 k l0 t162))) else (laws_FnPlainInt96Written.j0 k l0 false)))) = some r := h
  clear h
  by_cases c2 : (l0.length : Int) > 2147483647
  · rw [if_pos c2] at H
    have c2b0 : decide (2147483647 < (l0.length : Int)) = true := decide_eq_true c2
    have c2b1 : decide (2147483647 < l0.length) = true := decide_eq_true (by omega)
    clear c2
    obtain rfl := Option.some.inj H
    go_enter Try.func7, Try.ntmps7
    go_wp2
    go_ret
    exact ⟨by first | rfl | (simp [errW_none, errW_some] <;> rfl) | (simp [*, errW_none, errW_some] <;> rfl), by repeat (first | (with_reducible first | exact HB.out | apply below_alloc | apply pw_below_drewN | apply below_drew1) | exact HB.out)⟩
  · rw [if_neg c2] at H
    have c2b0 : decide (2147483647 < (l0.length : Int)) = false := decide_eq_false c2
    have c2b1 : decide (2147483647 < l0.length) = false := decide_eq_false (by omega)
    clear c2
    obtain ⟨y146, hy146⟩ : ∃ y_ : List (S29), y_ = (([(⟨false, 0, (⟨#[97, 98, 99, 100, 101, 102, 103, 104, 105, 106, 107, 108]⟩ : ByteArray), ([] : List (S29))⟩ : S29)] : List (S29))) := ⟨_, rfl⟩
    replace H : ((impl_PlainInt96Written.f (([y146] : List (List (S29))))).bind fun bt152 => (if bt152.2 = true then ((spec_Plainly.f k 15 12 false 0 0 0 (⟨#[]⟩ : ByteArray) false ([] : List Int) ([] : List Int) (([(⟨false, 0, (⟨#[97, 98, 99, 100, 101, 102, 103, 104, 105, 106, 107, 108]⟩ : ByteArray), ([] : List (S29))⟩ : S29)] : List (S29)))).bind fun t159 => ((laws_sameBytes.f bt152.1 t159).bind fun t162 => (laws_FnPlainInt96Written.j0 k l0 t162))) else (laws_FnPlainInt96Written.j0 k l0 false))) = some r := by first | (rw [hy146]; with_reducible exact H) | (have H2_ := (Option.bind_some _ _).symm.trans H; rw [hy146]; with_reducible exact H2_) | (have H2_ := (Option.bind_some _ _).symm.trans H; with_reducible exact H2_) | with_reducible exact H | (rw [hy146]; exact H) | exact H
    have Ny146 := Aside0.mk hy146
    clear hy146
    obtain ⟨y149, hy149⟩ : ∃ y_ : List (List (S29)), y_ = (([y146] : List (List (S29)))) := ⟨_, rfl⟩
    replace H : ((impl_PlainInt96Written.f y149).bind fun bt152 => (if bt152.2 = true then ((spec_Plainly.f k 15 12 false 0 0 0 (⟨#[]⟩ : ByteArray) false ([] : List Int) ([] : List Int) (([(⟨false, 0, (⟨#[97, 98, 99, 100, 101, 102, 103, 104, 105, 106, 107, 108]⟩ : ByteArray), ([] : List (S29))⟩ : S29)] : List (S29)))).bind fun t159 => ((laws_sameBytes.f bt152.1 t159).bind fun t162 => (laws_FnPlainInt96Written.j0 k l0 t162))) else (laws_FnPlainInt96Written.j0 k l0 false))) = some r := by first | (rw [hy149]; with_reducible exact H) | (have H2_ := (Option.bind_some _ _).symm.trans H; rw [hy149]; with_reducible exact H2_) | (have H2_ := (Option.bind_some _ _).symm.trans H; with_reducible exact H2_) | with_reducible exact H | (rw [hy149]; exact H) | exact H
    have Ny149 := Aside0.mk hy149
    clear hy149
    replace H := Option.bind_eq_some_iff.mp H
    obtain ⟨⟨t152, t153⟩, A30, H⟩ := H
    replace H : (if t153 = true then ((spec_Plainly.f k 15 12 false 0 0 0 (⟨#[]⟩ : ByteArray) false ([] : List Int) ([] : List Int) (([(⟨false, 0, (⟨#[97, 98, 99, 100, 101, 102, 103, 104, 105, 106, 107, 108]⟩ : ByteArray), ([] : List (S29))⟩ : S29)] : List (S29)))).bind fun t159 => ((laws_sameBytes.f t152 t159).bind fun t162 => (laws_FnPlainInt96Written.j0 k l0 t162))) else (laws_FnPlainInt96Written.j0 k l0 false)) = some r := H
    have A3 := Aside0.mk A30
    clear A30
    have HC4 := Aside0.mk H
    clear H
    go_enter Try.func7, Try.ntmps7
    go_upto_region 4 with (first | ((with_reducible refine gate_dst (N := 15) rfl ?_); (try (refine gate_guard (by rfl) ?_; dsimp only)); refine Kd.N_lit k29 _ 29 ?hg (N' := 15) ?hd (xs := ([(⟨false, 0, (⟨#[97, 98, 99, 100, 101, 102, 103, 104, 105, 106, 107, 108]⟩ : ByteArray), ([] : List (S29))⟩ : S29)] : List (S29))) (inner := [.bool false, .int .u64 0, .string (⟨#[97, 98, 99, 100, 101, 102, 103, 104, 105, 106, 107, 108]⟩ : ByteArray), .slice none 0 0]) (ok := (fun _ => True)) (okp := (fun _ => True)) ?hr ?hp (fun _ hk => hk) ((show ∀ k_, w.heap.size ≤ k_ → (fun _ => True) k_ from fun k_ hk => trivial) _ (Nat.le_refl _)) (Below.refl _ _) (Nat.le_refl _) (by simp) ?_; (case hd => rfl); (case hg => rfl); (case hr => first | (go_simp; done) | (go_simp; rfl)); (case hp => exact (Reps.c4 (show Kd.FK k29 _ _ (⟨false, 0, (⟨#[97, 98, 99, 100, 101, 102, 103, 104, 105, 106, 107, 108]⟩ : ByteArray), ([] : List (S29))⟩ : S29) [.bool false, .int .u64 0, .string (⟨#[97, 98, 99, 100, 101, 102, 103, 104, 105, 106, 107, 108]⟩ : ByteArray), .slice none 0 0] from (k29_mkF _ _ (⟨false, 0, (⟨#[97, 98, 99, 100, 101, 102, 103, 104, 105, 106, 107, 108]⟩ : ByteArray), ([] : List (S29))⟩ : S29) (Nat.le_refl _) (Kd.F_nil _ _ _))) (Reps.none _ _))); intro v147 w5 ho6 hb hg_ hnew_; clear hg_ hnew_; (first | rw [← Ny146.out] at ho6 | (simp only [Int.reduceToNat] at ho6; rw [← Ny146.out] at ho6)); have n0_ := Aside0.mk (Kd.N_lower ho6 (below_size (by repeat (first | (with_reducible first | exact HB.out | apply below_alloc | apply pw_below_drewN | apply below_drew1) | exact HB.out)))); have n1_ := Aside0.mk (below_step (by repeat (first | (with_reducible first | exact HB.out | apply below_alloc | apply pw_below_drewN | apply below_drew1) | exact HB.out)) hb); clear HB; have HO148 := n0_; have HB := n1_; clear n0_ n1_; clear hb ho6; obtain ⟨Ao7, co7, eo7⟩ := Kd.N_slice HO148.out; subst eo7) | ((with_reducible refine gate_dst (N := 16) rfl ?_); (try (refine gate_guard (by rfl) ?_; dsimp only)); refine Kd.N_lit (Kd.slice 29 k29) _ 27 ?hg (N' := 16) ?hd (xs := ([y146] : List (List (S29)))) (inner := [.slice Ao7 y146.length co7]) (ok := (fun _ => True)) (okp := (fun _ => True)) ?hr ?hp (fun _ hk => hk) ((show ∀ k_, w5.heap.size ≤ k_ → (fun _ => True) k_ from fun k_ hk => trivial) _ (Nat.le_refl _)) (Below.refl _ _) (Nat.le_refl _) (by simp) ?_; (case hd => rfl); (case hg => rfl); (case hr => first | (go_simp; done) | (go_simp; rfl)); (case hp => exact (Reps.one (show Kd.FK (Kd.slice 29 k29) _ _ y146 [.slice Ao7 y146.length co7] from (Kd.FK_slice_mk (Kd.N_reads' (Kd.N_mono (ok' := (fun _ => True)) (HO148.out) (fun k_ hk => trivial))).2.1 (Kd.N_F (Kd.N_mono (ok' := (fun _ => True)) (HO148.out) (fun k_ hk => trivial))))) (Reps.none _ _))); intro v150 w8 ho9 hb hg_ hnew_; clear hg_ hnew_; (first | rw [← Ny149.out] at ho9 | (simp only [Int.reduceToNat] at ho9; rw [← Ny149.out] at ho9)); have n0_ := Aside0.mk (Kd.N_lower ho9 (below_size (by repeat (first | (with_reducible first | exact HB.out | apply below_alloc | apply pw_below_drewN | apply below_drew1) | exact HB.out)))); have n1_ := Aside0.mk (below_step (by repeat (first | (with_reducible first | exact HB.out | apply below_alloc | apply pw_below_drewN | apply below_drew1) | exact HB.out)) hb); clear HB; clear HO148; have HO151 := n0_; have HB := n1_; clear n0_ n1_; clear hb ho9; obtain ⟨Ao10, co10, eo10⟩ := Kd.N_slice HO151.out; subst eo10) | ((with_reducible refine gate_callee (f := 17) rfl ?_); refine goesL_ (some 17) rfl rfl Try.func17 (by kernel_rfl) rfl #[.slice Ao10 y149.length co10] rfl (by (try simp only [List.map_toArray, List.map_cons, List.map_nil]); first | done | rfl | (simp only [List.length_drop, List.length_take]; rfl)) ?_; (with_reducible refine (impl_PlainInt96Written.calls _ _ y149 t152 t153 _ ?side1 ?side2 A3.out).mono ?_); (case side1 => repeat (first | exact (Kd.N_reads' HO151.out).2.2 | (with_reducible refine Kd.C_alloc ?_ _) | (with_reducible refine Kd.C_drewN ?_ _) | (with_reducible refine Kd.C_drew ?_))); (case side2 => exact (Kd.N_reads' HO151.out).2.1); rintro e w11 ⟨v154, rfl, ho0, hb⟩; refine ⟨_, rfl, ?_⟩; have n0_ := Aside0.mk (Kd.N_elder' (by (with_reducible repeat (first | apply Kd.N_alloc | apply Kd.N_drewN | apply Kd.N_drew)); exact HO151.out) (Kd.R_base ho0) hb); have n1_ := Aside0.mk (Kd.R_lower ho0 (below_size (by repeat (first | (with_reducible first | exact HB.out | apply below_alloc | apply pw_below_drewN | apply below_drew1) | exact HB.out)))); have n2_ := Aside0.mk (below_step (by repeat (first | (with_reducible first | exact HB.out | apply below_alloc | apply pw_below_drewN | apply below_drew1) | exact HB.out)) hb); clear HO151; clear HB; have HO151 := n0_; have HO155 := n1_; have HB := n2_; clear n0_ n1_ n2_; (try clear hb); (try clear hb2); (try clear hk); (try clear hi); (try clear ho0)))
    (try simp only [Act.put, List.setIfInBounds_toArray, List.set_cons_zero, List.set_cons_succ])
    go_cut [5] (fun v5 wc => ∃ (kq : Nat) (x5_3 : Bool), v5 = .bool x5_3 ∧ Aside0 (laws_FnPlainInt96Written.j0 kq l0 x5_3 = some r) ∧ Aside0 (kq ≤ k) ∧ Aside0 (Below w.heap.size w wc))
    case first =>
      have H := HC4.out
      clear HC4
      by_cases c12 : t153 = true
      · subst c12
        have H1 : ((spec_Plainly.f k 15 12 false 0 0 0 (⟨#[]⟩ : ByteArray) false ([] : List Int) ([] : List Int) (([(⟨false, 0, (⟨#[97, 98, 99, 100, 101, 102, 103, 104, 105, 106, 107, 108]⟩ : ByteArray), ([] : List (S29))⟩ : S29)] : List (S29)))).bind fun t159 => ((laws_sameBytes.f t152 t159).bind fun t162 => (laws_FnPlainInt96Written.j0 k l0 t162))) = some r := by rw [if_pos rfl] at H; exact H
        clear H
        have H := H1
        clear H1
        obtain ⟨y156, hy156⟩ : ∃ y_ : List (S29), y_ = (([(⟨false, 0, (⟨#[97, 98, 99, 100, 101, 102, 103, 104, 105, 106, 107, 108]⟩ : ByteArray), ([] : List (S29))⟩ : S29)] : List (S29))) := ⟨_, rfl⟩
        replace H : ((spec_Plainly.f k 15 12 false 0 0 0 (⟨#[]⟩ : ByteArray) false ([] : List Int) ([] : List Int) y156).bind fun t159 => ((laws_sameBytes.f t152 t159).bind fun t162 => (laws_FnPlainInt96Written.j0 k l0 t162))) = some r := by first | (rw [hy156]; with_reducible exact H) | (have H2_ := (Option.bind_some _ _).symm.trans H; rw [hy156]; with_reducible exact H2_) | (have H2_ := (Option.bind_some _ _).symm.trans H; with_reducible exact H2_) | with_reducible exact H | (rw [hy156]; exact H) | exact H
        have Ny156 := Aside0.mk hy156
        clear hy156
        replace H := Option.bind_eq_some_iff.mp H
        obtain ⟨t159, A130, H⟩ := H
        replace H : ((laws_sameBytes.f t152 t159).bind fun t162 => (laws_FnPlainInt96Written.j0 k l0 t162)) = some r := H
        have A13 := Aside0.mk A130
        clear A130
        replace H := Option.bind_eq_some_iff.mp H
        obtain ⟨t162, A140, H⟩ := H
        replace H : (laws_FnPlainInt96Written.j0 k l0 t162) = some r := H
        have A14 := Aside0.mk A140
        clear A140
        have H' := Aside0.mk H
        clear H
        go_wp2_with (first | ((with_reducible refine gate_dst (N := 25) rfl ?_); (try (refine gate_guard (by rfl) ?_; dsimp only)); refine Kd.N_lit k29 _ 29 ?hg (N' := 25) ?hd (xs := ([(⟨false, 0, (⟨#[97, 98, 99, 100, 101, 102, 103, 104, 105, 106, 107, 108]⟩ : ByteArray), ([] : List (S29))⟩ : S29)] : List (S29))) (inner := [.bool false, .int .u64 0, .string (⟨#[97, 98, 99, 100, 101, 102, 103, 104, 105, 106, 107, 108]⟩ : ByteArray), .slice none 0 0]) (ok := (fun k_ => some k_ ≠ (.slice Ao10 y149.length co10 : Value).ownBlock ∧ some k_ ≠ (v154 : Value).ownBlock)) (okp := (fun k_ => some k_ ≠ (.slice Ao10 y149.length co10 : Value).ownBlock ∧ some k_ ≠ (v154 : Value).ownBlock)) ?hr ?hp (fun _ hk => hk) ((show ∀ k_, w11.heap.size ≤ k_ → (fun k_ => some k_ ≠ (.slice Ao10 y149.length co10 : Value).ownBlock ∧ some k_ ≠ (v154 : Value).ownBlock) k_ from fun k_ hk => ⟨Kd.fresh' (Kd.N_lt (by (with_reducible repeat (first | apply Kd.N_alloc | apply Kd.N_drewN | apply Kd.N_drew)); exact HO151.out)) k_ hk, Kd.fresh' (Kd.R_lt (by (with_reducible repeat (first | apply Kd.R_alloc | apply Kd.R_drewN | apply Kd.R_drew)); exact HO155.out)) k_ hk⟩) _ (Nat.le_refl _)) (Below.refl _ _) (Nat.le_refl _) (by simp) ?_; (case hd => rfl); (case hg => rfl); (case hr => first | (go_simp; done) | (go_simp; rfl)); (case hp => exact (Reps.c4 (show Kd.FK k29 _ _ (⟨false, 0, (⟨#[97, 98, 99, 100, 101, 102, 103, 104, 105, 106, 107, 108]⟩ : ByteArray), ([] : List (S29))⟩ : S29) [.bool false, .int .u64 0, .string (⟨#[97, 98, 99, 100, 101, 102, 103, 104, 105, 106, 107, 108]⟩ : ByteArray), .slice none 0 0] from (k29_mkF _ _ (⟨false, 0, (⟨#[97, 98, 99, 100, 101, 102, 103, 104, 105, 106, 107, 108]⟩ : ByteArray), ([] : List (S29))⟩ : S29) (Nat.le_refl _) (Kd.F_nil _ _ _))) (Reps.none _ _))); intro v157 w15 ho16 hb hg_ hnew_; clear hg_ hnew_; (first | rw [← Ny156.out] at ho16 | (simp only [Int.reduceToNat] at ho16; rw [← Ny156.out] at ho16)); have n0_ := Aside0.mk (Kd.N_elder' (by (with_reducible repeat (first | apply Kd.N_alloc | apply Kd.N_drewN | apply Kd.N_drew)); exact HO151.out) (Kd.N_base ho16) hb); have n1_ := Aside0.mk (Kd.R_below (by (with_reducible repeat (first | apply Kd.R_alloc | apply Kd.R_drewN | apply Kd.R_drew)); exact HO155.out) hb); have n2_ := Aside0.mk (Kd.N_lower ho16 (below_size (by repeat (first | (with_reducible first | exact HB.out | apply below_alloc | apply pw_below_drewN | apply below_drew1) | exact HB.out)))); have n3_ := Aside0.mk (below_step (by repeat (first | (with_reducible first | exact HB.out | apply below_alloc | apply pw_below_drewN | apply below_drew1) | exact HB.out)) hb); clear HO151; clear HO155; clear HB; have HO151 := n0_; have HO155 := n1_; have HO158 := n2_; have HB := n3_; clear n0_ n1_ n2_ n3_; clear hb ho16; obtain ⟨Ao17, co17, eo17⟩ := Kd.N_slice HO158.out; subst eo17) | (go_at_call 12; (refine (spec_Plainly.calls k 15 12 false 0 0 0 (⟨#[]⟩ : ByteArray) false _ _ ([] : List Int) _ _ ([] : List Int) _ _ y156 t159 _ ?side1 ?side2 ?side3 ?side4 ?side5 ?side6 A13.out).mono ?_); (case side1 => exact Kd.C_nil _ _); (case side2 => exact Nat.le_refl _); (case side3 => exact Kd.C_nil _ _); (case side4 => exact Nat.le_refl _); (case side5 => repeat (first | exact (Kd.N_reads' HO158.out).2.2 | (with_reducible refine Kd.C_alloc ?_ _) | (with_reducible refine Kd.C_drewN ?_ _) | (with_reducible refine Kd.C_drew ?_))); (case side6 => exact (Kd.N_reads' HO158.out).2.1); rintro e w18 ⟨v160, rfl, ho0, hb⟩; have n0_ := Aside0.mk (Kd.N_elder' (by (with_reducible repeat (first | apply Kd.N_alloc | apply Kd.N_drewN | apply Kd.N_drew)); exact HO151.out) (Kd.R_base ho0) hb); have n1_ := Aside0.mk (Kd.R_elder' (by (with_reducible repeat (first | apply Kd.R_alloc | apply Kd.R_drewN | apply Kd.R_drew)); exact HO155.out) (Kd.R_base ho0) hb); have n2_ := Aside0.mk (Kd.N_elder' (by (with_reducible repeat (first | apply Kd.N_alloc | apply Kd.N_drewN | apply Kd.N_drew)); exact HO158.out) (Kd.R_base ho0) hb); have n3_ := Aside0.mk (Kd.R_lower (Kd.R_new' ho0 (Kd.R_lt (by (with_reducible repeat (first | apply Kd.R_alloc | apply Kd.R_drewN | apply Kd.R_drew)); exact HO155.out))) (below_size (by repeat (first | (with_reducible first | exact HB.out | apply below_alloc | apply pw_below_drewN | apply below_drew1) | exact HB.out)))); have n4_ := Aside0.mk (below_step (by repeat (first | (with_reducible first | exact HB.out | apply below_alloc | apply pw_below_drewN | apply below_drew1) | exact HB.out)) hb); clear HO151; clear HO155; clear HO158; clear HB; have HO151 := n0_; have HO155 := n1_; have HO158 := n2_; have HO161 := n3_; have HB := n4_; clear n0_ n1_ n2_ n3_ n4_; (try clear hb); (try clear hb2); (try clear hk); (try clear hi); (try clear ho0); obtain ⟨Ao19, co19, eo19⟩ := Kd.R_slice HO155.out; subst eo19; obtain ⟨Ao20, co20, eo20⟩ := Kd.R_slice HO161.out; subst eo20) | (go_at_call 11; (with_reducible refine (laws_sameBytes.calls _ _ t152 _ _ t159 t162 _ ?side1 ?side2 ?side3 ?side4 A14.out).mono ?_); (case side1 => repeat (first | exact (Kd.R_reads' HO155.out).2.2 | (with_reducible refine Kd.C_alloc ?_ _) | (with_reducible refine Kd.C_drewN ?_ _) | (with_reducible refine Kd.C_drew ?_))); (case side2 => exact (Kd.R_reads' HO155.out).2.1); (case side3 => repeat (first | exact (Kd.R_reads' HO161.out).2.2 | (with_reducible refine Kd.C_alloc ?_ _) | (with_reducible refine Kd.C_drewN ?_ _) | (with_reducible refine Kd.C_drew ?_))); (case side4 => exact (Kd.R_reads' HO161.out).2.1); rintro e w' ⟨rfl, ⟨nd, rfl⟩⟩))
        go_meet
        case rel => exact ⟨_, (t162), (by first | rfl | (simp; done) | (simp [*]; done)), H', ⟨by first | omega | exact Nat.le_refl _⟩, ⟨by repeat (first | (with_reducible first | exact HB.out | apply below_alloc | apply pw_below_drewN | apply below_drew1) | exact HB.out)⟩⟩
      · replace c12 := Bool.eq_false_iff.mpr c12
        subst c12
        have H1 : (laws_FnPlainInt96Written.j0 k l0 false) = some r := by rw [if_neg (show ¬ (false = true) by decide)] at H; exact H
        clear H
        have H := H1
        clear H1
        have H' := Aside0.mk H
        clear H
        go_wp2
        go_meet
        case rel => exact ⟨_, (false), (by first | rfl | (simp; done) | (simp [*]; done)), H', ⟨by first | omega | exact Nat.le_refl _⟩, ⟨by repeat (first | (with_reducible first | exact HB.out | apply below_alloc | apply pw_below_drewN | apply below_drew1) | exact HB.out)⟩⟩
    case rest =>
      clear HC4
      try clear c1
      try clear c2
      try clear c2b0
      try clear c2b1
      try clear p2
      try clear c4
      try clear c7
      try clear c12
      try clear c17
      obtain ⟨kq, x5_3, rfl, HA, HJ3, HB⟩ := hcut
      cases kq with
      | zero => exact absurd HA.out (by simp [laws_FnPlainInt96Written.j0])
      | succ kj3 =>
        have H := HA.out
        clear HA
        simp only [laws_FnPlainInt96Written.j0] at H
        replace H := Option.bind_eq_some_iff.mp H
        obtain ⟨⟨t163, t166⟩, A210, H⟩ := H
        replace H : (if t166 = true then ((impl_PlainInt96Written.f l0).bind fun bt167 => (if bt167.2 = true then ((spec_Plainly.f kj3 15 12 false 0 0 0 (⟨#[]⟩ : ByteArray) false ([] : List Int) ([] : List Int) t163).bind fun t171 => ((laws_sameBytes.f bt167.1 t171).bind fun t174 => (if t174 = true then (some x5_3) else (some false)))) else (some false))) else (some x5_3)) = some r := H
        have A21 := Aside0.mk A210
        clear A210
        by_cases c22 : t166 = true
        · subst c22
          have H1 : ((impl_PlainInt96Written.f l0).bind fun bt167 => (if bt167.2 = true then ((spec_Plainly.f kj3 15 12 false 0 0 0 (⟨#[]⟩ : ByteArray) false ([] : List Int) ([] : List Int) t163).bind fun t171 => ((laws_sameBytes.f bt167.1 t171).bind fun t174 => (if t174 = true then (some x5_3) else (some false)))) else (some false))) = some r := by rw [if_pos rfl] at H; exact H
          clear H
          have H := H1
          clear H1
          replace H := Option.bind_eq_some_iff.mp H
          obtain ⟨⟨t167, t168⟩, A230, H⟩ := H
          replace H : (if t168 = true then ((spec_Plainly.f kj3 15 12 false 0 0 0 (⟨#[]⟩ : ByteArray) false ([] : List Int) ([] : List Int) t163).bind fun t171 => ((laws_sameBytes.f t167 t171).bind fun t174 => (if t174 = true then (some x5_3) else (some false)))) else (some false)) = some r := H
          have A23 := Aside0.mk A230
          clear A230
          by_cases c24 : t168 = true
          · subst c24
            have H1 : ((spec_Plainly.f kj3 15 12 false 0 0 0 (⟨#[]⟩ : ByteArray) false ([] : List Int) ([] : List Int) t163).bind fun t171 => ((laws_sameBytes.f t167 t171).bind fun t174 => (if t174 = true then (some x5_3) else (some false)))) = some r := by rw [if_pos rfl] at H; exact H
            clear H
            have H := H1
            clear H1
            replace H := Option.bind_eq_some_iff.mp H
            obtain ⟨t171, A250, H⟩ := H
            replace H : ((laws_sameBytes.f t167 t171).bind fun t174 => (if t174 = true then (some x5_3) else (some false))) = some r := H
            have A25 := Aside0.mk A250
            clear A250
            replace H := Option.bind_eq_some_iff.mp H
            obtain ⟨t174, A260, H⟩ := H
            replace H : (if t174 = true then (some x5_3) else (some false)) = some r := H
            have A26 := Aside0.mk A260
            clear A260
            by_cases c27 : t174 = true
            · subst c27
              have H1 : (some x5_3) = some r := by rw [if_pos rfl] at H; exact H
              clear H
              have H := H1
              clear H1
              obtain rfl := Option.some.inj H
              go_wp2_with (first | ((with_reducible refine gate_callee (f := 13) rfl ?_); refine goesL_ (some 32) rfl rfl Try.func13 (by kernel_rfl) rfl #[.agg #[.int .i64 15, .int .i64 12, .bool false, .int .i64 0, .int .i64 0, .int .i64 0, .string (⟨#[]⟩ : ByteArray), .bool false, .slice none 0 0, .slice none 0 0], .slice A0 l0.length c0] rfl (by (try simp only [List.map_toArray, List.map_cons, List.map_nil]); first | done | rfl | (simp only [List.length_drop, List.length_take]; rfl)) ?_; (refine (laws_allOf.calls kj3 15 12 false 0 0 0 (⟨#[]⟩ : ByteArray) false _ _ ([] : List Int) _ _ ([] : List Int) (fun k_ => k_ < w.heap.size) _ _ l0 t163 true _ ?side1 ?side2 ?side3 ?side4 ?side5 A21.out).mono ?_); (case side1 => exact Kd.C_nil _ _); (case side2 => exact Nat.le_refl _); (case side3 => exact Kd.C_nil _ _); (case side4 => exact Nat.le_refl _); (case side5 => exact Kd.V_mk HC0.out (Kd.F_below (Kd.C_F (Kd.heap_slice 29 k29_heap) HR0.out) (by repeat (first | (with_reducible first | exact HB.out | apply below_alloc | apply pw_below_drewN | apply below_drew1) | exact HB.out)))); rintro e w28 ⟨v164, rfl, ho0, hb⟩; refine ⟨_, rfl, ?_⟩; have n0_ := Aside0.mk (Kd.N_lower (Kd.N_mono (ok' := fun k_ => True) ho0 (fun k_ hk_ => trivial)) (below_size (by repeat (first | (with_reducible first | exact HB.out | apply below_alloc | apply pw_below_drewN | apply below_drew1) | exact HB.out)))); have n1_ := Aside0.mk (below_step (by repeat (first | (with_reducible first | exact HB.out | apply below_alloc | apply pw_below_drewN | apply below_drew1) | exact HB.out)) hb); clear HB; have HO165 := n0_; have HB := n1_; clear n0_ n1_; (try clear hb); (try clear hb2); (try clear hk); (try clear hi); (try clear ho0)) | ((with_reducible refine gate_callee (f := 17) rfl ?_); refine goesL_ (some 40) rfl rfl Try.func17 (by kernel_rfl) rfl #[.slice A0 l0.length c0] rfl (by (try simp only [List.map_toArray, List.map_cons, List.map_nil]); first | done | rfl | (simp only [List.length_drop, List.length_take]; rfl)) ?_; (with_reducible refine (impl_PlainInt96Written.calls _ _ l0 t167 true _ ?side1 ?side2 A23.out).mono ?_); (case side1 => repeat (first | exact (Kd.C_below HR0.out HB.out) | (with_reducible refine Kd.C_alloc ?_ _) | (with_reducible refine Kd.C_drewN ?_ _) | (with_reducible refine Kd.C_drew ?_))); (case side2 => exact HC0.out); rintro e w29 ⟨v169, rfl, ho0, hb⟩; refine ⟨_, rfl, ?_⟩; have n0_ := Aside0.mk (Kd.N_elder' (by (with_reducible repeat (first | apply Kd.N_alloc | apply Kd.N_drewN | apply Kd.N_drew)); exact HO165.out) (Kd.R_base ho0) hb); have n1_ := Aside0.mk (Kd.R_lower ho0 (below_size (by repeat (first | (with_reducible first | exact HB.out | apply below_alloc | apply pw_below_drewN | apply below_drew1) | exact HB.out)))); have n2_ := Aside0.mk (below_step (by repeat (first | (with_reducible first | exact HB.out | apply below_alloc | apply pw_below_drewN | apply below_drew1) | exact HB.out)) hb); clear HO165; clear HB; have HO165 := n0_; have HO170 := n1_; have HB := n2_; clear n0_ n1_ n2_; (try clear hb); (try clear hb2); (try clear hk); (try clear hi); (try clear ho0); obtain ⟨Ao30, co30, eo30⟩ := Kd.N_slice HO165.out; subst eo30) | (go_at_call 12; (refine (spec_Plainly.calls kj3 15 12 false 0 0 0 (⟨#[]⟩ : ByteArray) false _ _ ([] : List Int) _ _ ([] : List Int) _ _ t163 t171 _ ?side1 ?side2 ?side3 ?side4 ?side5 ?side6 A25.out).mono ?_); (case side1 => exact Kd.C_nil _ _); (case side2 => exact Nat.le_refl _); (case side3 => exact Kd.C_nil _ _); (case side4 => exact Nat.le_refl _); (case side5 => repeat (first | exact (Kd.N_reads' HO165.out).2.2 | (with_reducible refine Kd.C_alloc ?_ _) | (with_reducible refine Kd.C_drewN ?_ _) | (with_reducible refine Kd.C_drew ?_))); (case side6 => exact (Kd.N_reads' HO165.out).2.1); rintro e w31 ⟨v172, rfl, ho0, hb⟩; have n0_ := Aside0.mk (Kd.N_elder' (by (with_reducible repeat (first | apply Kd.N_alloc | apply Kd.N_drewN | apply Kd.N_drew)); exact HO165.out) (Kd.R_base ho0) hb); have n1_ := Aside0.mk (Kd.R_elder' (by (with_reducible repeat (first | apply Kd.R_alloc | apply Kd.R_drewN | apply Kd.R_drew)); exact HO170.out) (Kd.R_base ho0) hb); have n2_ := Aside0.mk (Kd.R_lower (Kd.R_new' ho0 (Kd.R_lt (by (with_reducible repeat (first | apply Kd.R_alloc | apply Kd.R_drewN | apply Kd.R_drew)); exact HO170.out))) (below_size (by repeat (first | (with_reducible first | exact HB.out | apply below_alloc | apply pw_below_drewN | apply below_drew1) | exact HB.out)))); have n3_ := Aside0.mk (below_step (by repeat (first | (with_reducible first | exact HB.out | apply below_alloc | apply pw_below_drewN | apply below_drew1) | exact HB.out)) hb); clear HO165; clear HO170; clear HB; have HO165 := n0_; have HO170 := n1_; have HO173 := n2_; have HB := n3_; clear n0_ n1_ n2_ n3_; (try clear hb); (try clear hb2); (try clear hk); (try clear hi); (try clear ho0); obtain ⟨Ao32, co32, eo32⟩ := Kd.R_slice HO170.out; subst eo32; obtain ⟨Ao33, co33, eo33⟩ := Kd.R_slice HO173.out; subst eo33) | (go_at_call 11; (with_reducible refine (laws_sameBytes.calls _ _ t167 _ _ t171 true _ ?side1 ?side2 ?side3 ?side4 A26.out).mono ?_); (case side1 => repeat (first | exact (Kd.R_reads' HO170.out).2.2 | (with_reducible refine Kd.C_alloc ?_ _) | (with_reducible refine Kd.C_drewN ?_ _) | (with_reducible refine Kd.C_drew ?_))); (case side2 => exact (Kd.R_reads' HO170.out).2.1); (case side3 => repeat (first | exact (Kd.R_reads' HO173.out).2.2 | (with_reducible refine Kd.C_alloc ?_ _) | (with_reducible refine Kd.C_drewN ?_ _) | (with_reducible refine Kd.C_drew ?_))); (case side4 => exact (Kd.R_reads' HO173.out).2.1); rintro e w' ⟨rfl, ⟨nd, rfl⟩⟩))
              go_ret
              exact ⟨by first | rfl | (simp [errW_none, errW_some] <;> rfl) | (simp [*, errW_none, errW_some] <;> rfl), by repeat (first | (with_reducible first | exact HB.out | apply below_alloc | apply pw_below_drewN | apply below_drew1) | exact HB.out)⟩
            · replace c27 := Bool.eq_false_iff.mpr c27
              subst c27
              have H1 : (some false) = some r := by rw [if_neg (show ¬ (false = true) by decide)] at H; exact H
              clear H
              have H := H1
              clear H1
              obtain rfl := Option.some.inj H
              go_wp2_with (first | ((with_reducible refine gate_callee (f := 13) rfl ?_); refine goesL_ (some 32) rfl rfl Try.func13 (by kernel_rfl) rfl #[.agg #[.int .i64 15, .int .i64 12, .bool false, .int .i64 0, .int .i64 0, .int .i64 0, .string (⟨#[]⟩ : ByteArray), .bool false, .slice none 0 0, .slice none 0 0], .slice A0 l0.length c0] rfl (by (try simp only [List.map_toArray, List.map_cons, List.map_nil]); first | done | rfl | (simp only [List.length_drop, List.length_take]; rfl)) ?_; (refine (laws_allOf.calls kj3 15 12 false 0 0 0 (⟨#[]⟩ : ByteArray) false _ _ ([] : List Int) _ _ ([] : List Int) (fun k_ => k_ < w.heap.size) _ _ l0 t163 true _ ?side1 ?side2 ?side3 ?side4 ?side5 A21.out).mono ?_); (case side1 => exact Kd.C_nil _ _); (case side2 => exact Nat.le_refl _); (case side3 => exact Kd.C_nil _ _); (case side4 => exact Nat.le_refl _); (case side5 => exact Kd.V_mk HC0.out (Kd.F_below (Kd.C_F (Kd.heap_slice 29 k29_heap) HR0.out) (by repeat (first | (with_reducible first | exact HB.out | apply below_alloc | apply pw_below_drewN | apply below_drew1) | exact HB.out)))); rintro e w34 ⟨v164, rfl, ho0, hb⟩; refine ⟨_, rfl, ?_⟩; have n0_ := Aside0.mk (Kd.N_lower (Kd.N_mono (ok' := fun k_ => True) ho0 (fun k_ hk_ => trivial)) (below_size (by repeat (first | (with_reducible first | exact HB.out | apply below_alloc | apply pw_below_drewN | apply below_drew1) | exact HB.out)))); have n1_ := Aside0.mk (below_step (by repeat (first | (with_reducible first | exact HB.out | apply below_alloc | apply pw_below_drewN | apply below_drew1) | exact HB.out)) hb); clear HB; have HO165 := n0_; have HB := n1_; clear n0_ n1_; (try clear hb); (try clear hb2); (try clear hk); (try clear hi); (try clear ho0)) | ((with_reducible refine gate_callee (f := 17) rfl ?_); refine goesL_ (some 40) rfl rfl Try.func17 (by kernel_rfl) rfl #[.slice A0 l0.length c0] rfl (by (try simp only [List.map_toArray, List.map_cons, List.map_nil]); first | done | rfl | (simp only [List.length_drop, List.length_take]; rfl)) ?_; (with_reducible refine (impl_PlainInt96Written.calls _ _ l0 t167 true _ ?side1 ?side2 A23.out).mono ?_); (case side1 => repeat (first | exact (Kd.C_below HR0.out HB.out) | (with_reducible refine Kd.C_alloc ?_ _) | (with_reducible refine Kd.C_drewN ?_ _) | (with_reducible refine Kd.C_drew ?_))); (case side2 => exact HC0.out); rintro e w35 ⟨v169, rfl, ho0, hb⟩; refine ⟨_, rfl, ?_⟩; have n0_ := Aside0.mk (Kd.N_elder' (by (with_reducible repeat (first | apply Kd.N_alloc | apply Kd.N_drewN | apply Kd.N_drew)); exact HO165.out) (Kd.R_base ho0) hb); have n1_ := Aside0.mk (Kd.R_lower ho0 (below_size (by repeat (first | (with_reducible first | exact HB.out | apply below_alloc | apply pw_below_drewN | apply below_drew1) | exact HB.out)))); have n2_ := Aside0.mk (below_step (by repeat (first | (with_reducible first | exact HB.out | apply below_alloc | apply pw_below_drewN | apply below_drew1) | exact HB.out)) hb); clear HO165; clear HB; have HO165 := n0_; have HO170 := n1_; have HB := n2_; clear n0_ n1_ n2_; (try clear hb); (try clear hb2); (try clear hk); (try clear hi); (try clear ho0); obtain ⟨Ao36, co36, eo36⟩ := Kd.N_slice HO165.out; subst eo36) | (go_at_call 12; (refine (spec_Plainly.calls kj3 15 12 false 0 0 0 (⟨#[]⟩ : ByteArray) false _ _ ([] : List Int) _ _ ([] : List Int) _ _ t163 t171 _ ?side1 ?side2 ?side3 ?side4 ?side5 ?side6 A25.out).mono ?_); (case side1 => exact Kd.C_nil _ _); (case side2 => exact Nat.le_refl _); (case side3 => exact Kd.C_nil _ _); (case side4 => exact Nat.le_refl _); (case side5 => repeat (first | exact (Kd.N_reads' HO165.out).2.2 | (with_reducible refine Kd.C_alloc ?_ _) | (with_reducible refine Kd.C_drewN ?_ _) | (with_reducible refine Kd.C_drew ?_))); (case side6 => exact (Kd.N_reads' HO165.out).2.1); rintro e w37 ⟨v172, rfl, ho0, hb⟩; have n0_ := Aside0.mk (Kd.N_elder' (by (with_reducible repeat (first | apply Kd.N_alloc | apply Kd.N_drewN | apply Kd.N_drew)); exact HO165.out) (Kd.R_base ho0) hb); have n1_ := Aside0.mk (Kd.R_elder' (by (with_reducible repeat (first | apply Kd.R_alloc | apply Kd.R_drewN | apply Kd.R_drew)); exact HO170.out) (Kd.R_base ho0) hb); have n2_ := Aside0.mk (Kd.R_lower (Kd.R_new' ho0 (Kd.R_lt (by (with_reducible repeat (first | apply Kd.R_alloc | apply Kd.R_drewN | apply Kd.R_drew)); exact HO170.out))) (below_size (by repeat (first | (with_reducible first | exact HB.out | apply below_alloc | apply pw_below_drewN | apply below_drew1) | exact HB.out)))); have n3_ := Aside0.mk (below_step (by repeat (first | (with_reducible first | exact HB.out | apply below_alloc | apply pw_below_drewN | apply below_drew1) | exact HB.out)) hb); clear HO165; clear HO170; clear HB; have HO165 := n0_; have HO170 := n1_; have HO173 := n2_; have HB := n3_; clear n0_ n1_ n2_ n3_; (try clear hb); (try clear hb2); (try clear hk); (try clear hi); (try clear ho0); obtain ⟨Ao38, co38, eo38⟩ := Kd.R_slice HO170.out; subst eo38; obtain ⟨Ao39, co39, eo39⟩ := Kd.R_slice HO173.out; subst eo39) | (go_at_call 11; (with_reducible refine (laws_sameBytes.calls _ _ t167 _ _ t171 false _ ?side1 ?side2 ?side3 ?side4 A26.out).mono ?_); (case side1 => repeat (first | exact (Kd.R_reads' HO170.out).2.2 | (with_reducible refine Kd.C_alloc ?_ _) | (with_reducible refine Kd.C_drewN ?_ _) | (with_reducible refine Kd.C_drew ?_))); (case side2 => exact (Kd.R_reads' HO170.out).2.1); (case side3 => repeat (first | exact (Kd.R_reads' HO173.out).2.2 | (with_reducible refine Kd.C_alloc ?_ _) | (with_reducible refine Kd.C_drewN ?_ _) | (with_reducible refine Kd.C_drew ?_))); (case side4 => exact (Kd.R_reads' HO173.out).2.1); rintro e w' ⟨rfl, ⟨nd, rfl⟩⟩))
              go_ret
              exact ⟨by first | rfl | (simp [errW_none, errW_some] <;> rfl) | (simp [*, errW_none, errW_some] <;> rfl), by repeat (first | (with_reducible first | exact HB.out | apply below_alloc | apply pw_below_drewN | apply below_drew1) | exact HB.out)⟩
          · replace c24 := Bool.eq_false_iff.mpr c24
            subst c24
            have H1 : (some false) = some r := by rw [if_neg (show ¬ (false = true) by decide)] at H; exact H
            clear H
            have H := H1
            clear H1
            obtain rfl := Option.some.inj H
            go_wp2_with (first | ((with_reducible refine gate_callee (f := 13) rfl ?_); refine goesL_ (some 32) rfl rfl Try.func13 (by kernel_rfl) rfl #[.agg #[.int .i64 15, .int .i64 12, .bool false, .int .i64 0, .int .i64 0, .int .i64 0, .string (⟨#[]⟩ : ByteArray), .bool false, .slice none 0 0, .slice none 0 0], .slice A0 l0.length c0] rfl (by (try simp only [List.map_toArray, List.map_cons, List.map_nil]); first | done | rfl | (simp only [List.length_drop, List.length_take]; rfl)) ?_; (refine (laws_allOf.calls kj3 15 12 false 0 0 0 (⟨#[]⟩ : ByteArray) false _ _ ([] : List Int) _ _ ([] : List Int) (fun k_ => k_ < w.heap.size) _ _ l0 t163 true _ ?side1 ?side2 ?side3 ?side4 ?side5 A21.out).mono ?_); (case side1 => exact Kd.C_nil _ _); (case side2 => exact Nat.le_refl _); (case side3 => exact Kd.C_nil _ _); (case side4 => exact Nat.le_refl _); (case side5 => exact Kd.V_mk HC0.out (Kd.F_below (Kd.C_F (Kd.heap_slice 29 k29_heap) HR0.out) (by repeat (first | (with_reducible first | exact HB.out | apply below_alloc | apply pw_below_drewN | apply below_drew1) | exact HB.out)))); rintro e w40 ⟨v164, rfl, ho0, hb⟩; refine ⟨_, rfl, ?_⟩; have n0_ := Aside0.mk (Kd.N_lower (Kd.N_mono (ok' := fun k_ => True) ho0 (fun k_ hk_ => trivial)) (below_size (by repeat (first | (with_reducible first | exact HB.out | apply below_alloc | apply pw_below_drewN | apply below_drew1) | exact HB.out)))); have n1_ := Aside0.mk (below_step (by repeat (first | (with_reducible first | exact HB.out | apply below_alloc | apply pw_below_drewN | apply below_drew1) | exact HB.out)) hb); clear HB; have HO165 := n0_; have HB := n1_; clear n0_ n1_; (try clear hb); (try clear hb2); (try clear hk); (try clear hi); (try clear ho0)) | ((with_reducible refine gate_callee (f := 17) rfl ?_); refine goesL_ (some 40) rfl rfl Try.func17 (by kernel_rfl) rfl #[.slice A0 l0.length c0] rfl (by (try simp only [List.map_toArray, List.map_cons, List.map_nil]); first | done | rfl | (simp only [List.length_drop, List.length_take]; rfl)) ?_; (with_reducible refine (impl_PlainInt96Written.calls _ _ l0 t167 false _ ?side1 ?side2 A23.out).mono ?_); (case side1 => repeat (first | exact (Kd.C_below HR0.out HB.out) | (with_reducible refine Kd.C_alloc ?_ _) | (with_reducible refine Kd.C_drewN ?_ _) | (with_reducible refine Kd.C_drew ?_))); (case side2 => exact HC0.out); rintro e w41 ⟨v169, rfl, ho0, hb⟩; refine ⟨_, rfl, ?_⟩; have n0_ := Aside0.mk (Kd.N_elder' (by (with_reducible repeat (first | apply Kd.N_alloc | apply Kd.N_drewN | apply Kd.N_drew)); exact HO165.out) (Kd.R_base ho0) hb); have n1_ := Aside0.mk (Kd.R_lower ho0 (below_size (by repeat (first | (with_reducible first | exact HB.out | apply below_alloc | apply pw_below_drewN | apply below_drew1) | exact HB.out)))); have n2_ := Aside0.mk (below_step (by repeat (first | (with_reducible first | exact HB.out | apply below_alloc | apply pw_below_drewN | apply below_drew1) | exact HB.out)) hb); clear HO165; clear HB; have HO165 := n0_; have HO170 := n1_; have HB := n2_; clear n0_ n1_ n2_; (try clear hb); (try clear hb2); (try clear hk); (try clear hi); (try clear ho0)))
            go_ret
            exact ⟨by first | rfl | (simp [errW_none, errW_some] <;> rfl) | (simp [*, errW_none, errW_some] <;> rfl), by repeat (first | (with_reducible first | exact HB.out | apply below_alloc | apply pw_below_drewN | apply below_drew1) | exact HB.out)⟩
        · replace c22 := Bool.eq_false_iff.mpr c22
          subst c22
          have H1 : (some x5_3) = some r := by rw [if_neg (show ¬ (false = true) by decide)] at H; exact H
          clear H
          have H := H1
          clear H1
          obtain rfl := Option.some.inj H
          go_wp2_with (first | ((with_reducible refine gate_callee (f := 13) rfl ?_); refine goesL_ (some 32) rfl rfl Try.func13 (by kernel_rfl) rfl #[.agg #[.int .i64 15, .int .i64 12, .bool false, .int .i64 0, .int .i64 0, .int .i64 0, .string (⟨#[]⟩ : ByteArray), .bool false, .slice none 0 0, .slice none 0 0], .slice A0 l0.length c0] rfl (by (try simp only [List.map_toArray, List.map_cons, List.map_nil]); first | done | rfl | (simp only [List.length_drop, List.length_take]; rfl)) ?_; (refine (laws_allOf.calls kj3 15 12 false 0 0 0 (⟨#[]⟩ : ByteArray) false _ _ ([] : List Int) _ _ ([] : List Int) (fun k_ => k_ < w.heap.size) _ _ l0 t163 false _ ?side1 ?side2 ?side3 ?side4 ?side5 A21.out).mono ?_); (case side1 => exact Kd.C_nil _ _); (case side2 => exact Nat.le_refl _); (case side3 => exact Kd.C_nil _ _); (case side4 => exact Nat.le_refl _); (case side5 => exact Kd.V_mk HC0.out (Kd.F_below (Kd.C_F (Kd.heap_slice 29 k29_heap) HR0.out) (by repeat (first | (with_reducible first | exact HB.out | apply below_alloc | apply pw_below_drewN | apply below_drew1) | exact HB.out)))); rintro e w42 ⟨v164, rfl, ho0, hb⟩; refine ⟨_, rfl, ?_⟩; have n0_ := Aside0.mk (Kd.N_lower (Kd.N_mono (ok' := fun k_ => True) ho0 (fun k_ hk_ => trivial)) (below_size (by repeat (first | (with_reducible first | exact HB.out | apply below_alloc | apply pw_below_drewN | apply below_drew1) | exact HB.out)))); have n1_ := Aside0.mk (below_step (by repeat (first | (with_reducible first | exact HB.out | apply below_alloc | apply pw_below_drewN | apply below_drew1) | exact HB.out)) hb); clear HB; have HO165 := n0_; have HB := n1_; clear n0_ n1_; (try clear hb); (try clear hb2); (try clear hk); (try clear hi); (try clear ho0)))
          go_ret
          exact ⟨by first | rfl | (simp [errW_none, errW_some] <;> rfl) | (simp [*, errW_none, errW_some] <;> rfl), by repeat (first | (with_reducible first | exact HB.out | apply below_alloc | apply pw_below_drewN | apply below_drew1) | exact HB.out)⟩

end Go.Proofs.Ytcfnniminikmfaa.Q
