-- written by programs of ours (wip/tools) out of the kit's printer: the functions of one law, less those that are shared or proved by hand
import Derived.Test.YtcfnniminikmfaaHPT
import Derived.Test.YtcfnniminikmfaaQ0
import Derived.Test.YtcfnniminikmfaaQPI32a
import Derived.Test.YtcfnniminikmfaaQPI32b
import Derived.Test.YtcfnniminikmfaaQPI32d
namespace Go.Proofs.Ytcfnniminikmfaa.Q
open Go.RowKit Go.Proofs.YtcfnniminikmfaaW.PrintWords Go.Proofs.YtcfnniminikmfaaW.PrintLast Go.Proofs.YtcfnniminikmfaaW.PrintMore
attribute [local go_sem] max2_int min2_int max_two min_two max_three min_three max_four min_four
set_option linter.unusedVariables false
set_option linter.unusedSimpArgs false

/-! ### laws_FnPlainTextWritten: function 8 -/
def laws_FnPlainTextWritten.j0 : Nat → List (List (S29)) → Bool → Option (Bool)
  | 0, _, _ => none
  | k + 1, x0, x5 => (laws_allOf.f k 4 0 false 0 0 0 (⟨#[]⟩ : ByteArray) false ([] : List Int) ([] : List Int) x0).bind fun bt165 => (if bt165.2 = true then ((impl_PlainTextWritten.f x0).bind fun bt169 => (if bt169.2 = true then ((spec_Plainly.f k 4 0 false 0 0 0 (⟨#[]⟩ : ByteArray) false ([] : List Int) ([] : List Int) bt165.1).bind fun t173 => ((laws_sameBytes.f bt169.1 t173).bind fun t176 => (if t176 = true then (some x5) else (some false)))) else (some false))) else (some x5))
def laws_FnPlainTextWritten.f (k : Nat) (l0 : List (List (S29))) : Option (Bool) := if (l0.length : Int) > 2147483647 then (some true) else ((impl_PlainTextWritten.f (([(([(⟨false, 0, (⟨#[97]⟩ : ByteArray), ([] : List (S29))⟩ : S29)] : List (S29)))] : List (List (S29))))).bind fun bt154 => (if bt154.2 = true then ((spec_Plainly.f k 4 0 false 0 0 0 (⟨#[]⟩ : ByteArray) false ([] : List Int) ([] : List Int) (([(⟨false, 0, (⟨#[97]⟩ : ByteArray), ([] : List (S29))⟩ : S29)] : List (S29)))).bind fun t161 => ((laws_sameBytes.f bt154.1 t161).bind fun t164 => (laws_FnPlainTextWritten.j0 k l0 t164))) else (laws_FnPlainTextWritten.j0 k l0 false)))
theorem laws_FnPlainTextWritten.mono_l : ∀ k, (∀ y0 y1, LeO (laws_FnPlainTextWritten.j0 k y0 y1) (laws_FnPlainTextWritten.j0 (k + 1) y0 y1))
  | 0 => fun _ _ r h => by simp [laws_FnPlainTextWritten.j0] at h
  | k + 1 => by
    have ih0 := laws_FnPlainTextWritten.mono_l k
    · intro y0 y1
      unfold laws_FnPlainTextWritten.j0
      repeat' first
      | (with_reducible exact ih0 _ _)
      | (with_reducible exact laws_allOf.mono _ _ _ _ _ _ _ _ _ _ _ _)
      | (with_reducible exact spec_Plainly.mono _ _ _ _ _ _ _ _ _ _ _ _)
      | (with_reducible exact LeO.refl _)
      | (with_reducible exact LeO.none _)
      | (with_reducible refine LeO.ite ?_ ?_)
      | (with_reducible refine LeO.bind ?_ (fun _ => ?_))
      | exact ih0 _ _
      | exact laws_allOf.mono _ _ _ _ _ _ _ _ _ _ _ _
      | exact spec_Plainly.mono _ _ _ _ _ _ _ _ _ _ _ _
      | exact LeO.none _
      | refine LeO.ite ?_ ?_
      | refine LeO.bind ?_ (fun _ => ?_)
theorem laws_FnPlainTextWritten.mono : ∀ a0 k, LeO (laws_FnPlainTextWritten.f k a0) (laws_FnPlainTextWritten.f (k + 1) a0) := by
  intro a0 k
  have ih0 := laws_FnPlainTextWritten.mono_l k
  unfold laws_FnPlainTextWritten.f
  repeat' first
      | (with_reducible exact ih0 _ _)
      | (with_reducible exact laws_allOf.mono _ _ _ _ _ _ _ _ _ _ _ _)
      | (with_reducible exact spec_Plainly.mono _ _ _ _ _ _ _ _ _ _ _ _)
      | (with_reducible exact LeO.refl _)
      | (with_reducible exact LeO.none _)
      | (with_reducible refine LeO.ite ?_ ?_)
      | (with_reducible refine LeO.bind ?_ (fun _ => ?_))
      | exact ih0 _ _
      | exact laws_allOf.mono _ _ _ _ _ _ _ _ _ _ _ _
      | exact spec_Plainly.mono _ _ _ _ _ _ _ _ _ _ _ _
      | exact LeO.none _
      | refine LeO.ite ?_ ?_
      | refine LeO.bind ?_ (fun _ => ?_)
set_option maxHeartbeats 8000000 in
set_option maxRecDepth 100000 in
theorem laws_FnPlainTextWritten.calls (k : Nat) (A0 : Option Addr) (c0 : Nat) (l0 : List (List (S29))) (r : Bool) (w : World) (hr0 : Kd.C (Kd.slice 29 k29) w A0 l0.length l0) (hc0 : l0.length ≤ c0) (h : laws_FnPlainTextWritten.f k l0 = some r) :
    Calls Try.prog 8 #[.slice A0 l0.length c0] w fun e w' => e = .returned (.bool r) ∧ Below w.heap.size w w' := by
  have hu29 := Try.underlying29
  have hu35 := Try.underlying35
  have HR0 := Aside0.mk hr0
  have HC0 := Aside0.mk hc0
  clear hr0 hc0
  have HB := Aside0.mk (Below.refl w.heap.size w)
  have H : (if (l0.length : Int) > 2147483647 then (some true) else ((impl_PlainTextWritten.f (([(([(⟨false, 0, (⟨#[97]⟩ : ByteArray), ([] : List (S29))⟩ : S29)] : List (S29)))] : List (List (S29))))).bind fun bt154 => (if bt154.2 = true then ((spec_Plainly.f k 4 0 false 0 0 0 (⟨#[]⟩ : ByteArray) false ([] : List Int) ([] : List Int) (([(⟨false, 0, (⟨#[97]⟩ : ByteArray), ([] : List (S29))⟩ : S29)] : List (S29)))).bind fun t161 => ((laws_sameBytes.f bt154.1 t161).bind fun t164 => (laws_FnPlainTextWritten.j0 k l0 t164))) else (laws_FnPlainTextWritten.j0 k l0 false)))) = some r := h
  clear h
  by_cases c2 : (l0.length : Int) > 2147483647
  · rw [if_pos c2] at H
    have c2b0 : decide (2147483647 < (l0.length : Int)) = true := decide_eq_true c2
    have c2b1 : decide (2147483647 < l0.length) = true := decide_eq_true (by omega)
    clear c2
    obtain rfl := Option.some.inj H
    go_enter Try.func8, Try.ntmps8
    go_wp2
    go_ret
    exact ⟨by first | rfl | (simp [errW_none, errW_some] <;> rfl) | (simp [*, errW_none, errW_some] <;> rfl), by repeat (first | (with_reducible first | exact HB.out | apply below_alloc | apply pw_below_drewN | apply below_drew1) | exact HB.out)⟩
  · rw [if_neg c2] at H
    have c2b0 : decide (2147483647 < (l0.length : Int)) = false := decide_eq_false c2
    have c2b1 : decide (2147483647 < l0.length) = false := decide_eq_false (by omega)
    clear c2
    obtain ⟨y148, hy148⟩ : ∃ y_ : List (S29), y_ = (([(⟨false, 0, (⟨#[97]⟩ : ByteArray), ([] : List (S29))⟩ : S29)] : List (S29))) := ⟨_, rfl⟩
    replace H : ((impl_PlainTextWritten.f (([y148] : List (List (S29))))).bind fun bt154 => (if bt154.2 = true then ((spec_Plainly.f k 4 0 false 0 0 0 (⟨#[]⟩ : ByteArray) false ([] : List Int) ([] : List Int) (([(⟨false, 0, (⟨#[97]⟩ : ByteArray), ([] : List (S29))⟩ : S29)] : List (S29)))).bind fun t161 => ((laws_sameBytes.f bt154.1 t161).bind fun t164 => (laws_FnPlainTextWritten.j0 k l0 t164))) else (laws_FnPlainTextWritten.j0 k l0 false))) = some r := by first | (rw [hy148]; with_reducible exact H) | (have H2_ := (Option.bind_some _ _).symm.trans H; rw [hy148]; with_reducible exact H2_) | (have H2_ := (Option.bind_some _ _).symm.trans H; with_reducible exact H2_) | with_reducible exact H | (rw [hy148]; exact H) | exact H
    have Ny148 := Aside0.mk hy148
    clear hy148
    obtain ⟨y151, hy151⟩ : ∃ y_ : List (List (S29)), y_ = (([y148] : List (List (S29)))) := ⟨_, rfl⟩
    replace H : ((impl_PlainTextWritten.f y151).bind fun bt154 => (if bt154.2 = true then ((spec_Plainly.f k 4 0 false 0 0 0 (⟨#[]⟩ : ByteArray) false ([] : List Int) ([] : List Int) (([(⟨false, 0, (⟨#[97]⟩ : ByteArray), ([] : List (S29))⟩ : S29)] : List (S29)))).bind fun t161 => ((laws_sameBytes.f bt154.1 t161).bind fun t164 => (laws_FnPlainTextWritten.j0 k l0 t164))) else (laws_FnPlainTextWritten.j0 k l0 false))) = some r := by first | (rw [hy151]; with_reducible exact H) | (have H2_ := (Option.bind_some _ _).symm.trans H; rw [hy151]; with_reducible exact H2_) | (have H2_ := (Option.bind_some _ _).symm.trans H; with_reducible exact H2_) | with_reducible exact H | (rw [hy151]; exact H) | exact H
    have Ny151 := Aside0.mk hy151
    clear hy151
    replace H := Option.bind_eq_some_iff.mp H
    obtain ⟨⟨t154, t155⟩, A30, H⟩ := H
    replace H : (if t155 = true then ((spec_Plainly.f k 4 0 false 0 0 0 (⟨#[]⟩ : ByteArray) false ([] : List Int) ([] : List Int) (([(⟨false, 0, (⟨#[97]⟩ : ByteArray), ([] : List (S29))⟩ : S29)] : List (S29)))).bind fun t161 => ((laws_sameBytes.f t154 t161).bind fun t164 => (laws_FnPlainTextWritten.j0 k l0 t164))) else (laws_FnPlainTextWritten.j0 k l0 false)) = some r := H
    have A3 := Aside0.mk A30
    clear A30
    have HC4 := Aside0.mk H
    clear H
    go_enter Try.func8, Try.ntmps8
    go_upto_region 4 with (first | ((with_reducible refine gate_dst (N := 15) rfl ?_); (try (refine gate_guard (by rfl) ?_; dsimp only)); refine Kd.N_lit k29 _ 29 ?hg (N' := 15) ?hd (xs := ([(⟨false, 0, (⟨#[97]⟩ : ByteArray), ([] : List (S29))⟩ : S29)] : List (S29))) (inner := [.bool false, .int .u64 0, .string (⟨#[97]⟩ : ByteArray), .slice none 0 0]) (ok := (fun _ => True)) (okp := (fun _ => True)) ?hr ?hp (fun _ hk => hk) ((show ∀ k_, w.heap.size ≤ k_ → (fun _ => True) k_ from fun k_ hk => trivial) _ (Nat.le_refl _)) (Below.refl _ _) (Nat.le_refl _) (by simp) ?_; (case hd => rfl); (case hg => rfl); (case hr => first | (go_simp; done) | (go_simp; rfl)); (case hp => exact (Reps.c4 (show Kd.FK k29 _ _ (⟨false, 0, (⟨#[97]⟩ : ByteArray), ([] : List (S29))⟩ : S29) [.bool false, .int .u64 0, .string (⟨#[97]⟩ : ByteArray), .slice none 0 0] from (k29_mkF _ _ (⟨false, 0, (⟨#[97]⟩ : ByteArray), ([] : List (S29))⟩ : S29) (Nat.le_refl _) (Kd.F_nil _ _ _))) (Reps.none _ _))); intro v149 w5 ho6 hb hg_ hnew_; clear hg_ hnew_; (first | rw [← Ny148.out] at ho6 | (simp only [Int.reduceToNat] at ho6; rw [← Ny148.out] at ho6)); have n0_ := Aside0.mk (Kd.N_lower ho6 (below_size (by repeat (first | (with_reducible first | exact HB.out | apply below_alloc | apply pw_below_drewN | apply below_drew1) | exact HB.out)))); have n1_ := Aside0.mk (below_step (by repeat (first | (with_reducible first | exact HB.out | apply below_alloc | apply pw_below_drewN | apply below_drew1) | exact HB.out)) hb); clear HB; have HO150 := n0_; have HB := n1_; clear n0_ n1_; clear hb ho6; obtain ⟨Ao7, co7, eo7⟩ := Kd.N_slice HO150.out; subst eo7) | ((with_reducible refine gate_dst (N := 16) rfl ?_); (try (refine gate_guard (by rfl) ?_; dsimp only)); refine Kd.N_lit (Kd.slice 29 k29) _ 27 ?hg (N' := 16) ?hd (xs := ([y148] : List (List (S29)))) (inner := [.slice Ao7 y148.length co7]) (ok := (fun _ => True)) (okp := (fun _ => True)) ?hr ?hp (fun _ hk => hk) ((show ∀ k_, w5.heap.size ≤ k_ → (fun _ => True) k_ from fun k_ hk => trivial) _ (Nat.le_refl _)) (Below.refl _ _) (Nat.le_refl _) (by simp) ?_; (case hd => rfl); (case hg => rfl); (case hr => first | (go_simp; done) | (go_simp; rfl)); (case hp => exact (Reps.one (show Kd.FK (Kd.slice 29 k29) _ _ y148 [.slice Ao7 y148.length co7] from (Kd.FK_slice_mk (Kd.N_reads' (Kd.N_mono (ok' := (fun _ => True)) (HO150.out) (fun k_ hk => trivial))).2.1 (Kd.N_F (Kd.N_mono (ok' := (fun _ => True)) (HO150.out) (fun k_ hk => trivial))))) (Reps.none _ _))); intro v152 w8 ho9 hb hg_ hnew_; clear hg_ hnew_; (first | rw [← Ny151.out] at ho9 | (simp only [Int.reduceToNat] at ho9; rw [← Ny151.out] at ho9)); have n0_ := Aside0.mk (Kd.N_lower ho9 (below_size (by repeat (first | (with_reducible first | exact HB.out | apply below_alloc | apply pw_below_drewN | apply below_drew1) | exact HB.out)))); have n1_ := Aside0.mk (below_step (by repeat (first | (with_reducible first | exact HB.out | apply below_alloc | apply pw_below_drewN | apply below_drew1) | exact HB.out)) hb); clear HB; clear HO150; have HO153 := n0_; have HB := n1_; clear n0_ n1_; clear hb ho9; obtain ⟨Ao10, co10, eo10⟩ := Kd.N_slice HO153.out; subst eo10) | ((with_reducible refine gate_callee (f := 18) rfl ?_); refine goesL_ (some 17) rfl rfl Try.func18 (by kernel_rfl) rfl #[.slice Ao10 y151.length co10] rfl (by (try simp only [List.map_toArray, List.map_cons, List.map_nil]); first | done | rfl | (simp only [List.length_drop, List.length_take]; rfl)) ?_; (with_reducible refine (impl_PlainTextWritten.calls _ _ y151 t154 t155 _ ?side1 ?side2 A3.out).mono ?_); (case side1 => repeat (first | exact (Kd.N_reads' HO153.out).2.2 | (with_reducible refine Kd.C_alloc ?_ _) | (with_reducible refine Kd.C_drewN ?_ _) | (with_reducible refine Kd.C_drew ?_))); (case side2 => exact (Kd.N_reads' HO153.out).2.1); rintro e w11 ⟨v156, rfl, ho0, hb⟩; refine ⟨_, rfl, ?_⟩; have n0_ := Aside0.mk (Kd.N_elder' (by (with_reducible repeat (first | apply Kd.N_alloc | apply Kd.N_drewN | apply Kd.N_drew)); exact HO153.out) (Kd.R_base ho0) hb); have n1_ := Aside0.mk (Kd.R_lower ho0 (below_size (by repeat (first | (with_reducible first | exact HB.out | apply below_alloc | apply pw_below_drewN | apply below_drew1) | exact HB.out)))); have n2_ := Aside0.mk (below_step (by repeat (first | (with_reducible first | exact HB.out | apply below_alloc | apply pw_below_drewN | apply below_drew1) | exact HB.out)) hb); clear HO153; clear HB; have HO153 := n0_; have HO157 := n1_; have HB := n2_; clear n0_ n1_ n2_; (try clear hb); (try clear hb2); (try clear hk); (try clear hi); (try clear ho0)))
    (try simp only [Act.put, List.setIfInBounds_toArray, List.set_cons_zero, List.set_cons_succ])
    go_cut [5] (fun v5 wc => ∃ (kq : Nat) (x5_3 : Bool), v5 = .bool x5_3 ∧ Aside0 (laws_FnPlainTextWritten.j0 kq l0 x5_3 = some r) ∧ Aside0 (kq ≤ k) ∧ Aside0 (Below w.heap.size w wc))
    case first =>
      have H := HC4.out
      clear HC4
      by_cases c12 : t155 = true
      · subst c12
        have H1 : ((spec_Plainly.f k 4 0 false 0 0 0 (⟨#[]⟩ : ByteArray) false ([] : List Int) ([] : List Int) (([(⟨false, 0, (⟨#[97]⟩ : ByteArray), ([] : List (S29))⟩ : S29)] : List (S29)))).bind fun t161 => ((laws_sameBytes.f t154 t161).bind fun t164 => (laws_FnPlainTextWritten.j0 k l0 t164))) = some r := by rw [if_pos rfl] at H; exact H
        clear H
        have H := H1
        clear H1
        obtain ⟨y158, hy158⟩ : ∃ y_ : List (S29), y_ = (([(⟨false, 0, (⟨#[97]⟩ : ByteArray), ([] : List (S29))⟩ : S29)] : List (S29))) := ⟨_, rfl⟩
        replace H : ((spec_Plainly.f k 4 0 false 0 0 0 (⟨#[]⟩ : ByteArray) false ([] : List Int) ([] : List Int) y158).bind fun t161 => ((laws_sameBytes.f t154 t161).bind fun t164 => (laws_FnPlainTextWritten.j0 k l0 t164))) = some r := by first | (rw [hy158]; with_reducible exact H) | (have H2_ := (Option.bind_some _ _).symm.trans H; rw [hy158]; with_reducible exact H2_) | (have H2_ := (Option.bind_some _ _).symm.trans H; with_reducible exact H2_) | with_reducible exact H | (rw [hy158]; exact H) | exact H
        have Ny158 := Aside0.mk hy158
        clear hy158
        replace H := Option.bind_eq_some_iff.mp H
        obtain ⟨t161, A130, H⟩ := H
        replace H : ((laws_sameBytes.f t154 t161).bind fun t164 => (laws_FnPlainTextWritten.j0 k l0 t164)) = some r := H
        have A13 := Aside0.mk A130
        clear A130
        replace H := Option.bind_eq_some_iff.mp H
        obtain ⟨t164, A140, H⟩ := H
        replace H : (laws_FnPlainTextWritten.j0 k l0 t164) = some r := H
        have A14 := Aside0.mk A140
        clear A140
        have H' := Aside0.mk H
        clear H
        go_wp2_with (first | ((with_reducible refine gate_dst (N := 25) rfl ?_); (try (refine gate_guard (by rfl) ?_; dsimp only)); refine Kd.N_lit k29 _ 29 ?hg (N' := 25) ?hd (xs := ([(⟨false, 0, (⟨#[97]⟩ : ByteArray), ([] : List (S29))⟩ : S29)] : List (S29))) (inner := [.bool false, .int .u64 0, .string (⟨#[97]⟩ : ByteArray), .slice none 0 0]) (ok := (fun k_ => some k_ ≠ (.slice Ao10 y151.length co10 : Value).ownBlock ∧ some k_ ≠ (v156 : Value).ownBlock)) (okp := (fun k_ => some k_ ≠ (.slice Ao10 y151.length co10 : Value).ownBlock ∧ some k_ ≠ (v156 : Value).ownBlock)) ?hr ?hp (fun _ hk => hk) ((show ∀ k_, w11.heap.size ≤ k_ → (fun k_ => some k_ ≠ (.slice Ao10 y151.length co10 : Value).ownBlock ∧ some k_ ≠ (v156 : Value).ownBlock) k_ from fun k_ hk => ⟨Kd.fresh' (Kd.N_lt (by (with_reducible repeat (first | apply Kd.N_alloc | apply Kd.N_drewN | apply Kd.N_drew)); exact HO153.out)) k_ hk, Kd.fresh' (Kd.R_lt (by (with_reducible repeat (first | apply Kd.R_alloc | apply Kd.R_drewN | apply Kd.R_drew)); exact HO157.out)) k_ hk⟩) _ (Nat.le_refl _)) (Below.refl _ _) (Nat.le_refl _) (by simp) ?_; (case hd => rfl); (case hg => rfl); (case hr => first | (go_simp; done) | (go_simp; rfl)); (case hp => exact (Reps.c4 (show Kd.FK k29 _ _ (⟨false, 0, (⟨#[97]⟩ : ByteArray), ([] : List (S29))⟩ : S29) [.bool false, .int .u64 0, .string (⟨#[97]⟩ : ByteArray), .slice none 0 0] from (k29_mkF _ _ (⟨false, 0, (⟨#[97]⟩ : ByteArray), ([] : List (S29))⟩ : S29) (Nat.le_refl _) (Kd.F_nil _ _ _))) (Reps.none _ _))); intro v159 w15 ho16 hb hg_ hnew_; clear hg_ hnew_; (first | rw [← Ny158.out] at ho16 | (simp only [Int.reduceToNat] at ho16; rw [← Ny158.out] at ho16)); have n0_ := Aside0.mk (Kd.N_elder' (by (with_reducible repeat (first | apply Kd.N_alloc | apply Kd.N_drewN | apply Kd.N_drew)); exact HO153.out) (Kd.N_base ho16) hb); have n1_ := Aside0.mk (Kd.R_below (by (with_reducible repeat (first | apply Kd.R_alloc | apply Kd.R_drewN | apply Kd.R_drew)); exact HO157.out) hb); have n2_ := Aside0.mk (Kd.N_lower ho16 (below_size (by repeat (first | (with_reducible first | exact HB.out | apply below_alloc | apply pw_below_drewN | apply below_drew1) | exact HB.out)))); have n3_ := Aside0.mk (below_step (by repeat (first | (with_reducible first | exact HB.out | apply below_alloc | apply pw_below_drewN | apply below_drew1) | exact HB.out)) hb); clear HO153; clear HO157; clear HB; have HO153 := n0_; have HO157 := n1_; have HO160 := n2_; have HB := n3_; clear n0_ n1_ n2_ n3_; clear hb ho16; obtain ⟨Ao17, co17, eo17⟩ := Kd.N_slice HO160.out; subst eo17) | (go_at_call 12; (refine (spec_Plainly.calls k 4 0 false 0 0 0 (⟨#[]⟩ : ByteArray) false _ _ ([] : List Int) _ _ ([] : List Int) _ _ y158 t161 _ ?side1 ?side2 ?side3 ?side4 ?side5 ?side6 A13.out).mono ?_); (case side1 => exact Kd.C_nil _ _); (case side2 => exact Nat.le_refl _); (case side3 => exact Kd.C_nil _ _); (case side4 => exact Nat.le_refl _); (case side5 => repeat (first | exact (Kd.N_reads' HO160.out).2.2 | (with_reducible refine Kd.C_alloc ?_ _) | (with_reducible refine Kd.C_drewN ?_ _) | (with_reducible refine Kd.C_drew ?_))); (case side6 => exact (Kd.N_reads' HO160.out).2.1); rintro e w18 ⟨v162, rfl, ho0, hb⟩; have n0_ := Aside0.mk (Kd.N_elder' (by (with_reducible repeat (first | apply Kd.N_alloc | apply Kd.N_drewN | apply Kd.N_drew)); exact HO153.out) (Kd.R_base ho0) hb); have n1_ := Aside0.mk (Kd.R_elder' (by (with_reducible repeat (first | apply Kd.R_alloc | apply Kd.R_drewN | apply Kd.R_drew)); exact HO157.out) (Kd.R_base ho0) hb); have n2_ := Aside0.mk (Kd.N_elder' (by (with_reducible repeat (first | apply Kd.N_alloc | apply Kd.N_drewN | apply Kd.N_drew)); exact HO160.out) (Kd.R_base ho0) hb); have n3_ := Aside0.mk (Kd.R_lower (Kd.R_new' ho0 (Kd.R_lt (by (with_reducible repeat (first | apply Kd.R_alloc | apply Kd.R_drewN | apply Kd.R_drew)); exact HO157.out))) (below_size (by repeat (first | (with_reducible first | exact HB.out | apply below_alloc | apply pw_below_drewN | apply below_drew1) | exact HB.out)))); have n4_ := Aside0.mk (below_step (by repeat (first | (with_reducible first | exact HB.out | apply below_alloc | apply pw_below_drewN | apply below_drew1) | exact HB.out)) hb); clear HO153; clear HO157; clear HO160; clear HB; have HO153 := n0_; have HO157 := n1_; have HO160 := n2_; have HO163 := n3_; have HB := n4_; clear n0_ n1_ n2_ n3_ n4_; (try clear hb); (try clear hb2); (try clear hk); (try clear hi); (try clear ho0); obtain ⟨Ao19, co19, eo19⟩ := Kd.R_slice HO157.out; subst eo19; obtain ⟨Ao20, co20, eo20⟩ := Kd.R_slice HO163.out; subst eo20) | (go_at_call 11; (with_reducible refine (laws_sameBytes.calls _ _ t154 _ _ t161 t164 _ ?side1 ?side2 ?side3 ?side4 A14.out).mono ?_); (case side1 => repeat (first | exact (Kd.R_reads' HO157.out).2.2 | (with_reducible refine Kd.C_alloc ?_ _) | (with_reducible refine Kd.C_drewN ?_ _) | (with_reducible refine Kd.C_drew ?_))); (case side2 => exact (Kd.R_reads' HO157.out).2.1); (case side3 => repeat (first | exact (Kd.R_reads' HO163.out).2.2 | (with_reducible refine Kd.C_alloc ?_ _) | (with_reducible refine Kd.C_drewN ?_ _) | (with_reducible refine Kd.C_drew ?_))); (case side4 => exact (Kd.R_reads' HO163.out).2.1); rintro e w' ⟨rfl, ⟨nd, rfl⟩⟩))
        go_meet
        case rel => exact ⟨_, (t164), (by first | rfl | (simp; done) | (simp [*]; done)), H', ⟨by first | omega | exact Nat.le_refl _⟩, ⟨by repeat (first | (with_reducible first | exact HB.out | apply below_alloc | apply pw_below_drewN | apply below_drew1) | exact HB.out)⟩⟩
      · replace c12 := Bool.eq_false_iff.mpr c12
        subst c12
        have H1 : (laws_FnPlainTextWritten.j0 k l0 false) = some r := by rw [if_neg (show ¬ (false = true) by decide)] at H; exact H
        clear H
        have H := H1
        clear H1
        have H' := Aside0.mk H
        clear H
        go_wp2
        go_meet
        case rel => exact ⟨_, (false), (by first | rfl | (simp; done) | (simp [*]; done)), H', ⟨by first | omega | exact Nat.le_refl _⟩, ⟨by repeat (first | (with_reducible first | exact HB.out | apply below_alloc | apply pw_below_drewN | apply below_drew1) | exact HB.out)⟩⟩
    case rest =>
      clear HC4
      try clear c1
      try clear c2
      try clear c2b0
      try clear c2b1
      try clear p2
      try clear c4
      try clear c8
      try clear c12
      try clear c18
      obtain ⟨kq, x5_3, rfl, HA, HJ3, HB⟩ := hcut
      cases kq with
      | zero => exact absurd HA.out (by simp [laws_FnPlainTextWritten.j0])
      | succ kj3 =>
        have H := HA.out
        clear HA
        simp only [laws_FnPlainTextWritten.j0] at H
        replace H := Option.bind_eq_some_iff.mp H
        obtain ⟨⟨t165, t168⟩, A210, H⟩ := H
        replace H : (if t168 = true then ((impl_PlainTextWritten.f l0).bind fun bt169 => (if bt169.2 = true then ((spec_Plainly.f kj3 4 0 false 0 0 0 (⟨#[]⟩ : ByteArray) false ([] : List Int) ([] : List Int) t165).bind fun t173 => ((laws_sameBytes.f bt169.1 t173).bind fun t176 => (if t176 = true then (some x5_3) else (some false)))) else (some false))) else (some x5_3)) = some r := H
        have A21 := Aside0.mk A210
        clear A210
        by_cases c22 : t168 = true
        · subst c22
          have H1 : ((impl_PlainTextWritten.f l0).bind fun bt169 => (if bt169.2 = true then ((spec_Plainly.f kj3 4 0 false 0 0 0 (⟨#[]⟩ : ByteArray) false ([] : List Int) ([] : List Int) t165).bind fun t173 => ((laws_sameBytes.f bt169.1 t173).bind fun t176 => (if t176 = true then (some x5_3) else (some false)))) else (some false))) = some r := by rw [if_pos rfl] at H; exact H
          clear H
          have H := H1
          clear H1
          replace H := Option.bind_eq_some_iff.mp H
          obtain ⟨⟨t169, t170⟩, A230, H⟩ := H
          replace H : (if t170 = true then ((spec_Plainly.f kj3 4 0 false 0 0 0 (⟨#[]⟩ : ByteArray) false ([] : List Int) ([] : List Int) t165).bind fun t173 => ((laws_sameBytes.f t169 t173).bind fun t176 => (if t176 = true then (some x5_3) else (some false)))) else (some false)) = some r := H
          have A23 := Aside0.mk A230
          clear A230
          by_cases c24 : t170 = true
          · subst c24
            have H1 : ((spec_Plainly.f kj3 4 0 false 0 0 0 (⟨#[]⟩ : ByteArray) false ([] : List Int) ([] : List Int) t165).bind fun t173 => ((laws_sameBytes.f t169 t173).bind fun t176 => (if t176 = true then (some x5_3) else (some false)))) = some r := by rw [if_pos rfl] at H; exact H
            clear H
            have H := H1
            clear H1
            replace H := Option.bind_eq_some_iff.mp H
            obtain ⟨t173, A250, H⟩ := H
            replace H : ((laws_sameBytes.f t169 t173).bind fun t176 => (if t176 = true then (some x5_3) else (some false))) = some r := H
            have A25 := Aside0.mk A250
            clear A250
            replace H := Option.bind_eq_some_iff.mp H
            obtain ⟨t176, A260, H⟩ := H
            replace H : (if t176 = true then (some x5_3) else (some false)) = some r := H
            have A26 := Aside0.mk A260
            clear A260
            by_cases c27 : t176 = true
            · subst c27
              have H1 : (some x5_3) = some r := by rw [if_pos rfl] at H; exact H
              clear H
              have H := H1
              clear H1
              obtain rfl := Option.some.inj H
              go_wp2_with (first | ((with_reducible refine gate_callee (f := 13) rfl ?_); refine goesL_ (some 32) rfl rfl Try.func13 (by kernel_rfl) rfl #[.agg #[.int .i64 4, .int .i64 0, .bool false, .int .i64 0, .int .i64 0, .int .i64 0, .string (⟨#[]⟩ : ByteArray), .bool false, .slice none 0 0, .slice none 0 0], .slice A0 l0.length c0] rfl (by (try simp only [List.map_toArray, List.map_cons, List.map_nil]); first | done | rfl | (simp only [List.length_drop, List.length_take]; rfl)) ?_; (refine (laws_allOf.calls kj3 4 0 false 0 0 0 (⟨#[]⟩ : ByteArray) false _ _ ([] : List Int) _ _ ([] : List Int) (fun k_ => k_ < w.heap.size) _ _ l0 t165 true _ ?side1 ?side2 ?side3 ?side4 ?side5 A21.out).mono ?_); (case side1 => exact Kd.C_nil _ _); (case side2 => exact Nat.le_refl _); (case side3 => exact Kd.C_nil _ _); (case side4 => exact Nat.le_refl _); (case side5 => exact Kd.V_mk HC0.out (Kd.F_below (Kd.C_F (Kd.heap_slice 29 k29_heap) HR0.out) (by repeat (first | (with_reducible first | exact HB.out | apply below_alloc | apply pw_below_drewN | apply below_drew1) | exact HB.out)))); rintro e w28 ⟨v166, rfl, ho0, hb⟩; refine ⟨_, rfl, ?_⟩; have n0_ := Aside0.mk (Kd.N_lower (Kd.N_mono (ok' := fun k_ => True) ho0 (fun k_ hk_ => trivial)) (below_size (by repeat (first | (with_reducible first | exact HB.out | apply below_alloc | apply pw_below_drewN | apply below_drew1) | exact HB.out)))); have n1_ := Aside0.mk (below_step (by repeat (first | (with_reducible first | exact HB.out | apply below_alloc | apply pw_below_drewN | apply below_drew1) | exact HB.out)) hb); clear HB; have HO167 := n0_; have HB := n1_; clear n0_ n1_; (try clear hb); (try clear hb2); (try clear hk); (try clear hi); (try clear ho0)) | ((with_reducible refine gate_callee (f := 18) rfl ?_); refine goesL_ (some 40) rfl rfl Try.func18 (by kernel_rfl) rfl #[.slice A0 l0.length c0] rfl (by (try simp only [List.map_toArray, List.map_cons, List.map_nil]); first | done | rfl | (simp only [List.length_drop, List.length_take]; rfl)) ?_; (with_reducible refine (impl_PlainTextWritten.calls _ _ l0 t169 true _ ?side1 ?side2 A23.out).mono ?_); (case side1 => repeat (first | exact (Kd.C_below HR0.out HB.out) | (with_reducible refine Kd.C_alloc ?_ _) | (with_reducible refine Kd.C_drewN ?_ _) | (with_reducible refine Kd.C_drew ?_))); (case side2 => exact HC0.out); rintro e w29 ⟨v171, rfl, ho0, hb⟩; refine ⟨_, rfl, ?_⟩; have n0_ := Aside0.mk (Kd.N_elder' (by (with_reducible repeat (first | apply Kd.N_alloc | apply Kd.N_drewN | apply Kd.N_drew)); exact HO167.out) (Kd.R_base ho0) hb); have n1_ := Aside0.mk (Kd.R_lower ho0 (below_size (by repeat (first | (with_reducible first | exact HB.out | apply below_alloc | apply pw_below_drewN | apply below_drew1) | exact HB.out)))); have n2_ := Aside0.mk (below_step (by repeat (first | (with_reducible first | exact HB.out | apply below_alloc | apply pw_below_drewN | apply below_drew1) | exact HB.out)) hb); clear HO167; clear HB; have HO167 := n0_; have HO172 := n1_; have HB := n2_; clear n0_ n1_ n2_; (try clear hb); (try clear hb2); (try clear hk); (try clear hi); (try clear ho0); obtain ⟨Ao30, co30, eo30⟩ := Kd.N_slice HO167.out; subst eo30) | (go_at_call 12; (refine (spec_Plainly.calls kj3 4 0 false 0 0 0 (⟨#[]⟩ : ByteArray) false _ _ ([] : List Int) _ _ ([] : List Int) _ _ t165 t173 _ ?side1 ?side2 ?side3 ?side4 ?side5 ?side6 A25.out).mono ?_); (case side1 => exact Kd.C_nil _ _); (case side2 => exact Nat.le_refl _); (case side3 => exact Kd.C_nil _ _); (case side4 => exact Nat.le_refl _); (case side5 => repeat (first | exact (Kd.N_reads' HO167.out).2.2 | (with_reducible refine Kd.C_alloc ?_ _) | (with_reducible refine Kd.C_drewN ?_ _) | (with_reducible refine Kd.C_drew ?_))); (case side6 => exact (Kd.N_reads' HO167.out).2.1); rintro e w31 ⟨v174, rfl, ho0, hb⟩; have n0_ := Aside0.mk (Kd.N_elder' (by (with_reducible repeat (first | apply Kd.N_alloc | apply Kd.N_drewN | apply Kd.N_drew)); exact HO167.out) (Kd.R_base ho0) hb); have n1_ := Aside0.mk (Kd.R_elder' (by (with_reducible repeat (first | apply Kd.R_alloc | apply Kd.R_drewN | apply Kd.R_drew)); exact HO172.out) (Kd.R_base ho0) hb); have n2_ := Aside0.mk (Kd.R_lower (Kd.R_new' ho0 (Kd.R_lt (by (with_reducible repeat (first | apply Kd.R_alloc | apply Kd.R_drewN | apply Kd.R_drew)); exact HO172.out))) (below_size (by repeat (first | (with_reducible first | exact HB.out | apply below_alloc | apply pw_below_drewN | apply below_drew1) | exact HB.out)))); have n3_ := Aside0.mk (below_step (by repeat (first | (with_reducible first | exact HB.out | apply below_alloc | apply pw_below_drewN | apply below_drew1) | exact HB.out)) hb); clear HO167; clear HO172; clear HB; have HO167 := n0_; have HO172 := n1_; have HO175 := n2_; have HB := n3_; clear n0_ n1_ n2_ n3_; (try clear hb); (try clear hb2); (try clear hk); (try clear hi); (try clear ho0); obtain ⟨Ao32, co32, eo32⟩ := Kd.R_slice HO172.out; subst eo32; obtain ⟨Ao33, co33, eo33⟩ := Kd.R_slice HO175.out; subst eo33) | (go_at_call 11; (with_reducible refine (laws_sameBytes.calls _ _ t169 _ _ t173 true _ ?side1 ?side2 ?side3 ?side4 A26.out).mono ?_); (case side1 => repeat (first | exact (Kd.R_reads' HO172.out).2.2 | (with_reducible refine Kd.C_alloc ?_ _) | (with_reducible refine Kd.C_drewN ?_ _) | (with_reducible refine Kd.C_drew ?_))); (case side2 => exact (Kd.R_reads' HO172.out).2.1); (case side3 => repeat (first | exact (Kd.R_reads' HO175.out).2.2 | (with_reducible refine Kd.C_alloc ?_ _) | (with_reducible refine Kd.C_drewN ?_ _) | (with_reducible refine Kd.C_drew ?_))); (case side4 => exact (Kd.R_reads' HO175.out).2.1); rintro e w' ⟨rfl, ⟨nd, rfl⟩⟩))
              go_ret
              exact ⟨by first | rfl | (simp [errW_none, errW_some] <;> rfl) | (simp [*, errW_none, errW_some] <;> rfl), by repeat (first | (with_reducible first | exact HB.out | apply below_alloc | apply pw_below_drewN | apply below_drew1) | exact HB.out)⟩
            · replace c27 := Bool.eq_false_iff.mpr c27
              subst c27
              have H1 : (some false) = some r := by rw [if_neg (show ¬ (false = true) by decide)] at H; exact H
              clear H
              have H := H1
              clear H1
              obtain rfl := Option.some.inj H
              go_wp2_with (first | ((with_reducible refine gate_callee (f := 13) rfl ?_); refine goesL_ (some 32) rfl rfl Try.func13 (by kernel_rfl) rfl #[.agg #[.int .i64 4, .int .i64 0, .bool false, .int .i64 0, .int .i64 0, .int .i64 0, .string (⟨#[]⟩ : ByteArray), .bool false, .slice none 0 0, .slice none 0 0], .slice A0 l0.length c0] rfl (by (try simp only [List.map_toArray, List.map_cons, List.map_nil]); first | done | rfl | (simp only [List.length_drop, List.length_take]; rfl)) ?_; (refine (laws_allOf.calls kj3 4 0 false 0 0 0 (⟨#[]⟩ : ByteArray) false _ _ ([] : List Int) _ _ ([] : List Int) (fun k_ => k_ < w.heap.size) _ _ l0 t165 true _ ?side1 ?side2 ?side3 ?side4 ?side5 A21.out).mono ?_); (case side1 => exact Kd.C_nil _ _); (case side2 => exact Nat.le_refl _); (case side3 => exact Kd.C_nil _ _); (case side4 => exact Nat.le_refl _); (case side5 => exact Kd.V_mk HC0.out (Kd.F_below (Kd.C_F (Kd.heap_slice 29 k29_heap) HR0.out) (by repeat (first | (with_reducible first | exact HB.out | apply below_alloc | apply pw_below_drewN | apply below_drew1) | exact HB.out)))); rintro e w34 ⟨v166, rfl, ho0, hb⟩; refine ⟨_, rfl, ?_⟩; have n0_ := Aside0.mk (Kd.N_lower (Kd.N_mono (ok' := fun k_ => True) ho0 (fun k_ hk_ => trivial)) (below_size (by repeat (first | (with_reducible first | exact HB.out | apply below_alloc | apply pw_below_drewN | apply below_drew1) | exact HB.out)))); have n1_ := Aside0.mk (below_step (by repeat (first | (with_reducible first | exact HB.out | apply below_alloc | apply pw_below_drewN | apply below_drew1) | exact HB.out)) hb); clear HB; have HO167 := n0_; have HB := n1_; clear n0_ n1_; (try clear hb); (try clear hb2); (try clear hk); (try clear hi); (try clear ho0)) | ((with_reducible refine gate_callee (f := 18) rfl ?_); refine goesL_ (some 40) rfl rfl Try.func18 (by kernel_rfl) rfl #[.slice A0 l0.length c0] rfl (by (try simp only [List.map_toArray, List.map_cons, List.map_nil]); first | done | rfl | (simp only [List.length_drop, List.length_take]; rfl)) ?_; (with_reducible refine (impl_PlainTextWritten.calls _ _ l0 t169 true _ ?side1 ?side2 A23.out).mono ?_); (case side1 => repeat (first | exact (Kd.C_below HR0.out HB.out) | (with_reducible refine Kd.C_alloc ?_ _) | (with_reducible refine Kd.C_drewN ?_ _) | (with_reducible refine Kd.C_drew ?_))); (case side2 => exact HC0.out); rintro e w35 ⟨v171, rfl, ho0, hb⟩; refine ⟨_, rfl, ?_⟩; have n0_ := Aside0.mk (Kd.N_elder' (by (with_reducible repeat (first | apply Kd.N_alloc | apply Kd.N_drewN | apply Kd.N_drew)); exact HO167.out) (Kd.R_base ho0) hb); have n1_ := Aside0.mk (Kd.R_lower ho0 (below_size (by repeat (first | (with_reducible first | exact HB.out | apply below_alloc | apply pw_below_drewN | apply below_drew1) | exact HB.out)))); have n2_ := Aside0.mk (below_step (by repeat (first | (with_reducible first | exact HB.out | apply below_alloc | apply pw_below_drewN | apply below_drew1) | exact HB.out)) hb); clear HO167; clear HB; have HO167 := n0_; have HO172 := n1_; have HB := n2_; clear n0_ n1_ n2_; (try clear hb); (try clear hb2); (try clear hk); (try clear hi); (try clear ho0); obtain ⟨Ao36, co36, eo36⟩ := Kd.N_slice HO167.out; subst eo36) | (go_at_call 12; (refine (spec_Plainly.calls kj3 4 0 false 0 0 0 (⟨#[]⟩ : ByteArray) false _ _ ([] : List Int) _ _ ([] : List Int) _ _ t165 t173 _ ?side1 ?side2 ?side3 ?side4 ?side5 ?side6 A25.out).mono ?_); (case side1 => exact Kd.C_nil _ _); (case side2 => exact Nat.le_refl _); (case side3 => exact Kd.C_nil _ _); (case side4 => exact Nat.le_refl _); (case side5 => repeat (first | exact (Kd.N_reads' HO167.out).2.2 | (with_reducible refine Kd.C_alloc ?_ _) | (with_reducible refine Kd.C_drewN ?_ _) | (with_reducible refine Kd.C_drew ?_))); (case side6 => exact (Kd.N_reads' HO167.out).2.1); rintro e w37 ⟨v174, rfl, ho0, hb⟩; have n0_ := Aside0.mk (Kd.N_elder' (by (with_reducible repeat (first | apply Kd.N_alloc | apply Kd.N_drewN | apply Kd.N_drew)); exact HO167.out) (Kd.R_base ho0) hb); have n1_ := Aside0.mk (Kd.R_elder' (by (with_reducible repeat (first | apply Kd.R_alloc | apply Kd.R_drewN | apply Kd.R_drew)); exact HO172.out) (Kd.R_base ho0) hb); have n2_ := Aside0.mk (Kd.R_lower (Kd.R_new' ho0 (Kd.R_lt (by (with_reducible repeat (first | apply Kd.R_alloc | apply Kd.R_drewN | apply Kd.R_drew)); exact HO172.out))) (below_size (by repeat (first | (with_reducible first | exact HB.out | apply below_alloc | apply pw_below_drewN | apply below_drew1) | exact HB.out)))); have n3_ := Aside0.mk (below_step (by repeat (first | (with_reducible first | exact HB.out | apply below_alloc | apply pw_below_drewN | apply below_drew1) | exact HB.out)) hb); clear HO167; clear HO172; clear HB; have HO167 := n0_; have HO172 := n1_; have HO175 := n2_; have HB := n3_; clear n0_ n1_ n2_ n3_; (try clear hb); (try clear hb2); (try clear hk); (try clear hi); (try clear ho0); obtain ⟨Ao38, co38, eo38⟩ := Kd.R_slice HO172.out; subst eo38; obtain ⟨Ao39, co39, eo39⟩ := Kd.R_slice HO175.out; subst eo39) | (go_at_call 11; (with_reducible refine (laws_sameBytes.calls _ _ t169 _ _ t173 false _ ?side1 ?side2 ?side3 ?side4 A26.out).mono ?_); (case side1 => repeat (first | exact (Kd.R_reads' HO172.out).2.2 | (with_reducible refine Kd.C_alloc ?_ _) | (with_reducible refine Kd.C_drewN ?_ _) | (with_reducible refine Kd.C_drew ?_))); (case side2 => exact (Kd.R_reads' HO172.out).2.1); (case side3 => repeat (first | exact (Kd.R_reads' HO175.out).2.2 | (with_reducible refine Kd.C_alloc ?_ _) | (with_reducible refine Kd.C_drewN ?_ _) | (with_reducible refine Kd.C_drew ?_))); (case side4 => exact (Kd.R_reads' HO175.out).2.1); rintro e w' ⟨rfl, ⟨nd, rfl⟩⟩))
              go_ret
              exact ⟨by first | rfl | (simp [errW_none, errW_some] <;> rfl) | (simp [*, errW_none, errW_some] <;> rfl), by repeat (first | (with_reducible first | exact HB.out | apply below_alloc | apply pw_below_drewN | apply below_drew1) | exact HB.out)⟩
          · replace c24 := Bool.eq_false_iff.mpr c24
            subst c24
            have H1 : (some false) = some r := by rw [if_neg (show ¬ (false = true) by decide)] at H; exact H
            clear H
            have H := H1
            clear H1
            obtain rfl := Option.some.inj H
            go_wp2_with (first | ((with_reducible refine gate_callee (f := 13) rfl ?_); refine goesL_ (some 32) rfl rfl Try.func13 (by kernel_rfl) rfl #[.agg #[.int .i64 4, .int .i64 0, .bool false, .int .i64 0, .int .i64 0, .int .i64 0, .string (⟨#[]⟩ : ByteArray), .bool false, .slice none 0 0, .slice none 0 0], .slice A0 l0.length c0] rfl (by (try simp only [List.map_toArray, List.map_cons, List.map_nil]); first | done | rfl | (simp only [List.length_drop, List.length_take]; rfl)) ?_; (refine (laws_allOf.calls kj3 4 0 false 0 0 0 (⟨#[]⟩ : ByteArray) false _ _ ([] : List Int) _ _ ([] : List Int) (fun k_ => k_ < w.heap.size) _ _ l0 t165 true _ ?side1 ?side2 ?side3 ?side4 ?side5 A21.out).mono ?_); (case side1 => exact Kd.C_nil _ _); (case side2 => exact Nat.le_refl _); (case side3 => exact Kd.C_nil _ _); (case side4 => exact Nat.le_refl _); (case side5 => exact Kd.V_mk HC0.out (Kd.F_below (Kd.C_F (Kd.heap_slice 29 k29_heap) HR0.out) (by repeat (first | (with_reducible first | exact HB.out | apply below_alloc | apply pw_below_drewN | apply below_drew1) | exact HB.out)))); rintro e w40 ⟨v166, rfl, ho0, hb⟩; refine ⟨_, rfl, ?_⟩; have n0_ := Aside0.mk (Kd.N_lower (Kd.N_mono (ok' := fun k_ => True) ho0 (fun k_ hk_ => trivial)) (below_size (by repeat (first | (with_reducible first | exact HB.out | apply below_alloc | apply pw_below_drewN | apply below_drew1) | exact HB.out)))); have n1_ := Aside0.mk (below_step (by repeat (first | (with_reducible first | exact HB.out | apply below_alloc | apply pw_below_drewN | apply below_drew1) | exact HB.out)) hb); clear HB; have HO167 := n0_; have HB := n1_; clear n0_ n1_; (try clear hb); (try clear hb2); (try clear hk); (try clear hi); (try clear ho0)) | ((with_reducible refine gate_callee (f := 18) rfl ?_); refine goesL_ (some 40) rfl rfl Try.func18 (by kernel_rfl) rfl #[.slice A0 l0.length c0] rfl (by (try simp only [List.map_toArray, List.map_cons, List.map_nil]); first | done | rfl | (simp only [List.length_drop, List.length_take]; rfl)) ?_; (with_reducible refine (impl_PlainTextWritten.calls _ _ l0 t169 false _ ?side1 ?side2 A23.out).mono ?_); (case side1 => repeat (first | exact (Kd.C_below HR0.out HB.out) | (with_reducible refine Kd.C_alloc ?_ _) | (with_reducible refine Kd.C_drewN ?_ _) | (with_reducible refine Kd.C_drew ?_))); (case side2 => exact HC0.out); rintro e w41 ⟨v171, rfl, ho0, hb⟩; refine ⟨_, rfl, ?_⟩; have n0_ := Aside0.mk (Kd.N_elder' (by (with_reducible repeat (first | apply Kd.N_alloc | apply Kd.N_drewN | apply Kd.N_drew)); exact HO167.out) (Kd.R_base ho0) hb); have n1_ := Aside0.mk (Kd.R_lower ho0 (below_size (by repeat (first | (with_reducible first | exact HB.out | apply below_alloc | apply pw_below_drewN | apply below_drew1) | exact HB.out)))); have n2_ := Aside0.mk (below_step (by repeat (first | (with_reducible first | exact HB.out | apply below_alloc | apply pw_below_drewN | apply below_drew1) | exact HB.out)) hb); clear HO167; clear HB; have HO167 := n0_; have HO172 := n1_; have HB := n2_; clear n0_ n1_ n2_; (try clear hb); (try clear hb2); (try clear hk); (try clear hi); (try clear ho0)))
            go_ret
            exact ⟨by first | rfl | (simp [errW_none, errW_some] <;> rfl) | (simp [*, errW_none, errW_some] <;> rfl), by repeat (first | (with_reducible first | exact HB.out | apply below_alloc | apply pw_below_drewN | apply below_drew1) | exact HB.out)⟩
        · replace c22 := Bool.eq_false_iff.mpr c22
          subst c22
          have H1 : (some x5_3) = some r := by rw [if_neg (show ¬ (false = true) by decide)] at H; exact H
          clear H
          have H := H1
          clear H1
          obtain rfl := Option.some.inj H
          go_wp2_with (first | ((with_reducible refine gate_callee (f := 13) rfl ?_); refine goesL_ (some 32) rfl rfl Try.func13 (by kernel_rfl) rfl #[.agg #[.int .i64 4, .int .i64 0, .bool false, .int .i64 0, .int .i64 0, .int .i64 0, .string (⟨#[]⟩ : ByteArray), .bool false, .slice none 0 0, .slice none 0 0], .slice A0 l0.length c0] rfl (by (try simp only [List.map_toArray, List.map_cons, List.map_nil]); first | done | rfl | (simp only [List.length_drop, List.length_take]; rfl)) ?_; (refine (laws_allOf.calls kj3 4 0 false 0 0 0 (⟨#[]⟩ : ByteArray) false _ _ ([] : List Int) _ _ ([] : List Int) (fun k_ => k_ < w.heap.size) _ _ l0 t165 false _ ?side1 ?side2 ?side3 ?side4 ?side5 A21.out).mono ?_); (case side1 => exact Kd.C_nil _ _); (case side2 => exact Nat.le_refl _); (case side3 => exact Kd.C_nil _ _); (case side4 => exact Nat.le_refl _); (case side5 => exact Kd.V_mk HC0.out (Kd.F_below (Kd.C_F (Kd.heap_slice 29 k29_heap) HR0.out) (by repeat (first | (with_reducible first | exact HB.out | apply below_alloc | apply pw_below_drewN | apply below_drew1) | exact HB.out)))); rintro e w42 ⟨v166, rfl, ho0, hb⟩; refine ⟨_, rfl, ?_⟩; have n0_ := Aside0.mk (Kd.N_lower (Kd.N_mono (ok' := fun k_ => True) ho0 (fun k_ hk_ => trivial)) (below_size (by repeat (first | (with_reducible first | exact HB.out | apply below_alloc | apply pw_below_drewN | apply below_drew1) | exact HB.out)))); have n1_ := Aside0.mk (below_step (by repeat (first | (with_reducible first | exact HB.out | apply below_alloc | apply pw_below_drewN | apply below_drew1) | exact HB.out)) hb); clear HB; have HO167 := n0_; have HB := n1_; clear n0_ n1_; (try clear hb); (try clear hb2); (try clear hk); (try clear hi); (try clear ho0)))
          go_ret
          exact ⟨by first | rfl | (simp [errW_none, errW_some] <;> rfl) | (simp [*, errW_none, errW_some] <;> rfl), by repeat (first | (with_reducible first | exact HB.out | apply below_alloc | apply pw_below_drewN | apply below_drew1) | exact HB.out)⟩

end Go.Proofs.Ytcfnniminikmfaa.Q
