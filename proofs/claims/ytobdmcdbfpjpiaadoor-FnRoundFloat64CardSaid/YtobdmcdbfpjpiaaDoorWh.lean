/- kernels.round's call, where the scaled number is infinite; all of it. -/
import Derived.Test.YtobdmcdbfpjpiaaDoorWg
namespace Go.Proofs.YtobdmcdbfpjpiaaDoor.Q
open Go.RowKit Go.Proofs.YtobdmcdbfpjpiaaDoorW.PrintWords Go.Proofs.YtobdmcdbfpjpiaaDoorW.PrintLast Go.Proofs.YtobdmcdbfpjpiaaDoorW.PrintMore
set_option linter.unusedVariables false
set_option linter.unusedSimpArgs false
theorem order_nan (s : Bool) (r y : Nat) (h : 9218868437227405312 < r) (h2 : r < 9223372036854775808) : Ieee.double.order (W s r) y = none := by
  unfold Ieee.Format.order
  rw [read_nan s r h h2]
  rfl
set_option maxHeartbeats 8000000 in
set_option maxRecDepth 100000 in
theorem call_r_inf (Rb Eb v P x low y z : Nat) (d : Int) (m : Nat) (hm10 : m < 10) (hm : 4 ≤ m) (hI : Gives 7 #[.float .f64 v, .int .i64 0] (.bool false)) (hN : Gives 8 #[.float .f64 v] (.bool false)) (hF : Gives 11 #[.float .f64 x] (.float .f64 low)) (hY : Gives 40 #[.float .f64 x] (.float .f64 y)) (hJ : Gives 7 #[.float .f64 z, .int .i64 0] (.bool true)) 
    (hx : scaleW d v P = some x) (hs : Ieee.double.sub x low = none)  (hz : backW d y P = some z) (w : World) (hR : w.heap[Rb]? = some (rndO P d m)) (hE : w.heap[Eb]? = some (.cells #[.nilIface] 38 (0, 0))) :
    Calls Tryd.prog 21 #[.pointer (some ⟨Rb, 0, none⟩), .float .f64 v, .pointer (some ⟨Eb, 0, none⟩)] w fun e w' => e = .returned (.float .f64 v) ∧ (∃ a, w'.heap[Eb]? = some (.cells #[.iface 61 (.pointer a)] 38 (0, 0))) ∧ Kept w w' (fun k => k = Eb) ∧ w'.os = w.os ∧ w'.tape = w.tape ∧ w'.output = w.output := by
  have HI := Aside0.mk hI
  have HN := Aside0.mk hN
  have HF := Aside0.mk hF
  have HJ := Aside0.mk hJ
  have HY := Aside0.mk hY
  have c0 : w.cell? ⟨Rb, 0, none⟩ = some (.float .f64 P) := (blk_cell hR 0).trans rfl
  have c1 : w.cell? ⟨Rb, 1, none⟩ = some (.int .i64 d) := (blk_cell hR 1).trans rfl
  have c2 : w.cell? ⟨Rb, 2, none⟩ = some (.int .i8 (m : Int)) := (blk_cell hR 2).trans rfl
  have c3 : w.cell? ⟨Rb, 3, none⟩ = some (.func (.func (fnOf m)) #[] #[]) := (blk_cell hR 3).trans rfl
  have HE := Aside0.mk hE
  have hcf := enter_fn m hm10
  obtain ⟨sn, rn, n1, n2, hs2⟩ := run_nan_sub x low hs 26 w
  have h0' : (FloatKind.f64.format.order (W sn rn) 0 == some .eq) = false := by rw [show FloatKind.f64.format.order (W sn rn) 0 = none from order_nan sn rn 0 n1 n2]; rfl
  have hb' : (FloatKind.f64.format.order (W sn rn) 4602678819172646912 != some .eq) = true := by rw [show FloatKind.f64.format.order (W sn rn) 4602678819172646912 = none from order_nan sn rn _ n1 n2]; rfl
  generalize W sn rn = fr at *
  have gm : decide ((m : Int) ≥ 4) = true := decide_eq_true (by omega)
  have gm2 : decide ((4 : Int) ≤ (m : Int)) = true := decide_eq_true (by omega)
  have gm3 : decide (4 ≤ m) = true := decide_eq_true (by omega)
  unfold scaleW at hx
  unfold backW at hz
  by_cases hd : d ≥ 0
  · by_cases hd2 : d > 0
    · skip
      rw [if_pos hd] at hx
      rw [if_pos hd2] at hz
      have hx2 := fun (t : TypeId) (W' : World) => run_float_arith (P := Tryd.prog) W' .mul t .f64 _ _ _ hx
      have hz2 := fun (t : TypeId) (W' : World) => run_float_arith (P := Tryd.prog) W' .quo t .f64 _ _ _ hz
      have g1 : decide (d ≥ 0) = true := decide_eq_true hd
      have g2 : decide (0 ≤ d) = true := decide_eq_true hd
      have g3 : decide (d > 0) = true := decide_eq_true hd2
      have g4 : decide (0 < d) = true := decide_eq_true hd2
      clear hI hN hF hJ hY hR hs hx hz n1 n2 hE hd hd2 hm
      go_enter Tryd.func21, Tryd.ntmps21
      go_wp2_with (first | (go_at_call 41; refine (err_calls _ _).mono ?_; rintro e w1 ⟨rfl, hw1⟩; subst w1; have y0 := blk_alloc HE.out (.cells #[.string ⟨#[111, 118, 101, 114, 102, 108, 111, 119]⟩] 63); have z0 := blk_frozen y0 0; have ce := (blk_cell y0 0).trans (rfl : _ = some Value.nilIface); have Y0 := Aside0.mk (blk_drewN y0 1); clear y0) | (go_at_call 7; first | (refine (HI.out _).mono ?_; rintro e w1 ⟨rfl, hw1⟩; subst w1; clear HI) | (refine (HJ.out _).mono ?_; rintro e w1 ⟨rfl, hw1⟩; subst w1)) | (go_at_call 8; first | (refine (HN.out _).mono ?_; rintro e w1 ⟨rfl, hw1⟩; subst w1; clear HN) | (refine (HM.out _).mono ?_; rintro e w1 ⟨rfl, hw1⟩; subst w1)) | (go_at_call 11; refine (HF.out _).mono ?_; rintro e w1 ⟨rfl, hw1⟩; subst w1) | (go_at_call 40; refine (HY.out _).mono ?_; rintro e w1 ⟨rfl, hw1⟩; subst w1) | (go_at_fn fnOf m; refine (HY.out _).mono ?_; rintro e w1 ⟨rfl, hw1⟩; subst w1))
      go_ret
      refine ⟨rfl, ⟨_, blk_set Y0.out 0 _⟩, ?_, rfl, rfl, rfl⟩
      have hb := Kept.of_below (below_drew1 (below_alloc (Below.refl w.heap.size w) (.cells #[.string ⟨#[111, 118, 101, 114, 102, 108, 111, 119]⟩] 63))) (fun k => k = Eb)
      exact hb.setCell (p := ⟨Eb, 0, none⟩) (.inl rfl) _
    · skip
      rw [if_pos hd] at hx
      rw [if_neg hd2] at hz
      have hx2 := fun (t : TypeId) (W' : World) => run_float_arith (P := Tryd.prog) W' .mul t .f64 _ _ _ hx
      have hz2 := fun (t : TypeId) (W' : World) => run_float_arith (P := Tryd.prog) W' .mul t .f64 _ _ _ hz
      have g1 : decide (d ≥ 0) = true := decide_eq_true hd
      have g2 : decide (0 ≤ d) = true := decide_eq_true hd
      have g3 : decide (d > 0) = false := decide_eq_false hd2
      have g4 : decide (0 < d) = false := decide_eq_false hd2
      clear hI hN hF hJ hY hR hs hx hz n1 n2 hE hd hd2 hm
      go_enter Tryd.func21, Tryd.ntmps21
      go_wp2_with (first | (go_at_call 41; refine (err_calls _ _).mono ?_; rintro e w1 ⟨rfl, hw1⟩; subst w1; have y0 := blk_alloc HE.out (.cells #[.string ⟨#[111, 118, 101, 114, 102, 108, 111, 119]⟩] 63); have z0 := blk_frozen y0 0; have ce := (blk_cell y0 0).trans (rfl : _ = some Value.nilIface); have Y0 := Aside0.mk (blk_drewN y0 1); clear y0) | (go_at_call 7; first | (refine (HI.out _).mono ?_; rintro e w1 ⟨rfl, hw1⟩; subst w1; clear HI) | (refine (HJ.out _).mono ?_; rintro e w1 ⟨rfl, hw1⟩; subst w1)) | (go_at_call 8; first | (refine (HN.out _).mono ?_; rintro e w1 ⟨rfl, hw1⟩; subst w1; clear HN) | (refine (HM.out _).mono ?_; rintro e w1 ⟨rfl, hw1⟩; subst w1)) | (go_at_call 11; refine (HF.out _).mono ?_; rintro e w1 ⟨rfl, hw1⟩; subst w1) | (go_at_call 40; refine (HY.out _).mono ?_; rintro e w1 ⟨rfl, hw1⟩; subst w1) | (go_at_fn fnOf m; refine (HY.out _).mono ?_; rintro e w1 ⟨rfl, hw1⟩; subst w1))
      go_ret
      refine ⟨rfl, ⟨_, blk_set Y0.out 0 _⟩, ?_, rfl, rfl, rfl⟩
      have hb := Kept.of_below (below_drew1 (below_alloc (Below.refl w.heap.size w) (.cells #[.string ⟨#[111, 118, 101, 114, 102, 108, 111, 119]⟩] 63))) (fun k => k = Eb)
      exact hb.setCell (p := ⟨Eb, 0, none⟩) (.inl rfl) _
  · by_cases hd2 : d > 0
    · omega
    · skip
      rw [if_neg hd] at hx
      rw [if_neg hd2] at hz
      have hx2 := fun (t : TypeId) (W' : World) => run_float_arith (P := Tryd.prog) W' .quo t .f64 _ _ _ hx
      have hz2 := fun (t : TypeId) (W' : World) => run_float_arith (P := Tryd.prog) W' .mul t .f64 _ _ _ hz
      have g1 : decide (d ≥ 0) = false := decide_eq_false hd
      have g2 : decide (0 ≤ d) = false := decide_eq_false hd
      have g3 : decide (d > 0) = false := decide_eq_false hd2
      have g4 : decide (0 < d) = false := decide_eq_false hd2
      clear hI hN hF hJ hY hR hs hx hz n1 n2 hE hd hd2 hm
      go_enter Tryd.func21, Tryd.ntmps21
      go_wp2_with (first | (go_at_call 41; refine (err_calls _ _).mono ?_; rintro e w1 ⟨rfl, hw1⟩; subst w1; have y0 := blk_alloc HE.out (.cells #[.string ⟨#[111, 118, 101, 114, 102, 108, 111, 119]⟩] 63); have z0 := blk_frozen y0 0; have ce := (blk_cell y0 0).trans (rfl : _ = some Value.nilIface); have Y0 := Aside0.mk (blk_drewN y0 1); clear y0) | (go_at_call 7; first | (refine (HI.out _).mono ?_; rintro e w1 ⟨rfl, hw1⟩; subst w1; clear HI) | (refine (HJ.out _).mono ?_; rintro e w1 ⟨rfl, hw1⟩; subst w1)) | (go_at_call 8; first | (refine (HN.out _).mono ?_; rintro e w1 ⟨rfl, hw1⟩; subst w1; clear HN) | (refine (HM.out _).mono ?_; rintro e w1 ⟨rfl, hw1⟩; subst w1)) | (go_at_call 11; refine (HF.out _).mono ?_; rintro e w1 ⟨rfl, hw1⟩; subst w1) | (go_at_call 40; refine (HY.out _).mono ?_; rintro e w1 ⟨rfl, hw1⟩; subst w1) | (go_at_fn fnOf m; refine (HY.out _).mono ?_; rintro e w1 ⟨rfl, hw1⟩; subst w1))
      go_ret
      refine ⟨rfl, ⟨_, blk_set Y0.out 0 _⟩, ?_, rfl, rfl, rfl⟩
      have hb := Kept.of_below (below_drew1 (below_alloc (Below.refl w.heap.size w) (.cells #[.string ⟨#[111, 118, 101, 114, 102, 108, 111, 119]⟩] 63))) (fun k => k = Eb)
      exact hb.setCell (p := ⟨Eb, 0, none⟩) (.inl rfl) _
set_option maxHeartbeats 8000000 in
set_option maxRecDepth 100000 in
theorem call_w_inf (Rb Eb v P x low y z : Nat) (d : Int) (m : Nat) (hm10 : m < 10) (hm : m < 4) (hI : Gives 7 #[.float .f64 v, .int .i64 0] (.bool false)) (hN : Gives 8 #[.float .f64 v] (.bool false)) (hF : Gives 11 #[.float .f64 x] (.float .f64 low)) (hY : Gives (fnOf m) #[.float .f64 x] (.float .f64 y)) (hJ : Gives 7 #[.float .f64 z, .int .i64 0] (.bool true)) 
    (hx : scaleW d v P = some x) (hs : Ieee.double.sub x low = none)  (hz : backW d y P = some z) (w : World) (hR : w.heap[Rb]? = some (rndO P d m)) (hE : w.heap[Eb]? = some (.cells #[.nilIface] 38 (0, 0))) :
    Calls Tryd.prog 21 #[.pointer (some ⟨Rb, 0, none⟩), .float .f64 v, .pointer (some ⟨Eb, 0, none⟩)] w fun e w' => e = .returned (.float .f64 v) ∧ (∃ a, w'.heap[Eb]? = some (.cells #[.iface 61 (.pointer a)] 38 (0, 0))) ∧ Kept w w' (fun k => k = Eb) ∧ w'.os = w.os ∧ w'.tape = w.tape ∧ w'.output = w.output := by
  have HI := Aside0.mk hI
  have HN := Aside0.mk hN
  have HF := Aside0.mk hF
  have HJ := Aside0.mk hJ
  have HY := Aside0.mk hY
  have c0 : w.cell? ⟨Rb, 0, none⟩ = some (.float .f64 P) := (blk_cell hR 0).trans rfl
  have c1 : w.cell? ⟨Rb, 1, none⟩ = some (.int .i64 d) := (blk_cell hR 1).trans rfl
  have c2 : w.cell? ⟨Rb, 2, none⟩ = some (.int .i8 (m : Int)) := (blk_cell hR 2).trans rfl
  have c3 : w.cell? ⟨Rb, 3, none⟩ = some (.func (.func (fnOf m)) #[] #[]) := (blk_cell hR 3).trans rfl
  have HE := Aside0.mk hE
  have hcf := enter_fn m hm10
  obtain ⟨sn, rn, n1, n2, hs2⟩ := run_nan_sub x low hs 26 w
  have h0' : (FloatKind.f64.format.order (W sn rn) 0 == some .eq) = false := by rw [show FloatKind.f64.format.order (W sn rn) 0 = none from order_nan sn rn 0 n1 n2]; rfl
  have hb' : (FloatKind.f64.format.order (W sn rn) 4602678819172646912 != some .eq) = true := by rw [show FloatKind.f64.format.order (W sn rn) 4602678819172646912 = none from order_nan sn rn _ n1 n2]; rfl
  generalize W sn rn = fr at *
  have gm : decide ((m : Int) ≥ 4) = false := decide_eq_false (by omega)
  have gm2 : decide ((4 : Int) ≤ (m : Int)) = false := decide_eq_false (by omega)
  have gm3 : decide (4 ≤ m) = false := decide_eq_false (by omega)
  unfold scaleW at hx
  unfold backW at hz
  by_cases hd : d ≥ 0
  · by_cases hd2 : d > 0
    · skip
      rw [if_pos hd] at hx
      rw [if_pos hd2] at hz
      have hx2 := fun (t : TypeId) (W' : World) => run_float_arith (P := Tryd.prog) W' .mul t .f64 _ _ _ hx
      have hz2 := fun (t : TypeId) (W' : World) => run_float_arith (P := Tryd.prog) W' .quo t .f64 _ _ _ hz
      have g1 : decide (d ≥ 0) = true := decide_eq_true hd
      have g2 : decide (0 ≤ d) = true := decide_eq_true hd
      have g3 : decide (d > 0) = true := decide_eq_true hd2
      have g4 : decide (0 < d) = true := decide_eq_true hd2
      clear hI hN hF hJ hY hR hs hx hz n1 n2 hE hd hd2 hm
      go_enter Tryd.func21, Tryd.ntmps21
      go_wp2_with (first | (go_at_call 41; refine (err_calls _ _).mono ?_; rintro e w1 ⟨rfl, hw1⟩; subst w1; have y0 := blk_alloc HE.out (.cells #[.string ⟨#[111, 118, 101, 114, 102, 108, 111, 119]⟩] 63); have z0 := blk_frozen y0 0; have ce := (blk_cell y0 0).trans (rfl : _ = some Value.nilIface); have Y0 := Aside0.mk (blk_drewN y0 1); clear y0) | (go_at_call 7; first | (refine (HI.out _).mono ?_; rintro e w1 ⟨rfl, hw1⟩; subst w1; clear HI) | (refine (HJ.out _).mono ?_; rintro e w1 ⟨rfl, hw1⟩; subst w1)) | (go_at_call 8; first | (refine (HN.out _).mono ?_; rintro e w1 ⟨rfl, hw1⟩; subst w1; clear HN) | (refine (HM.out _).mono ?_; rintro e w1 ⟨rfl, hw1⟩; subst w1)) | (go_at_call 11; refine (HF.out _).mono ?_; rintro e w1 ⟨rfl, hw1⟩; subst w1) | (go_at_call 40; refine (HY.out _).mono ?_; rintro e w1 ⟨rfl, hw1⟩; subst w1) | (go_at_fn fnOf m; refine (HY.out _).mono ?_; rintro e w1 ⟨rfl, hw1⟩; subst w1))
      go_ret
      refine ⟨rfl, ⟨_, blk_set Y0.out 0 _⟩, ?_, rfl, rfl, rfl⟩
      have hb := Kept.of_below (below_drew1 (below_alloc (Below.refl w.heap.size w) (.cells #[.string ⟨#[111, 118, 101, 114, 102, 108, 111, 119]⟩] 63))) (fun k => k = Eb)
      exact hb.setCell (p := ⟨Eb, 0, none⟩) (.inl rfl) _
    · skip
      rw [if_pos hd] at hx
      rw [if_neg hd2] at hz
      have hx2 := fun (t : TypeId) (W' : World) => run_float_arith (P := Tryd.prog) W' .mul t .f64 _ _ _ hx
      have hz2 := fun (t : TypeId) (W' : World) => run_float_arith (P := Tryd.prog) W' .mul t .f64 _ _ _ hz
      have g1 : decide (d ≥ 0) = true := decide_eq_true hd
      have g2 : decide (0 ≤ d) = true := decide_eq_true hd
      have g3 : decide (d > 0) = false := decide_eq_false hd2
      have g4 : decide (0 < d) = false := decide_eq_false hd2
      clear hI hN hF hJ hY hR hs hx hz n1 n2 hE hd hd2 hm
      go_enter Tryd.func21, Tryd.ntmps21
      go_wp2_with (first | (go_at_call 41; refine (err_calls _ _).mono ?_; rintro e w1 ⟨rfl, hw1⟩; subst w1; have y0 := blk_alloc HE.out (.cells #[.string ⟨#[111, 118, 101, 114, 102, 108, 111, 119]⟩] 63); have z0 := blk_frozen y0 0; have ce := (blk_cell y0 0).trans (rfl : _ = some Value.nilIface); have Y0 := Aside0.mk (blk_drewN y0 1); clear y0) | (go_at_call 7; first | (refine (HI.out _).mono ?_; rintro e w1 ⟨rfl, hw1⟩; subst w1; clear HI) | (refine (HJ.out _).mono ?_; rintro e w1 ⟨rfl, hw1⟩; subst w1)) | (go_at_call 8; first | (refine (HN.out _).mono ?_; rintro e w1 ⟨rfl, hw1⟩; subst w1; clear HN) | (refine (HM.out _).mono ?_; rintro e w1 ⟨rfl, hw1⟩; subst w1)) | (go_at_call 11; refine (HF.out _).mono ?_; rintro e w1 ⟨rfl, hw1⟩; subst w1) | (go_at_call 40; refine (HY.out _).mono ?_; rintro e w1 ⟨rfl, hw1⟩; subst w1) | (go_at_fn fnOf m; refine (HY.out _).mono ?_; rintro e w1 ⟨rfl, hw1⟩; subst w1))
      go_ret
      refine ⟨rfl, ⟨_, blk_set Y0.out 0 _⟩, ?_, rfl, rfl, rfl⟩
      have hb := Kept.of_below (below_drew1 (below_alloc (Below.refl w.heap.size w) (.cells #[.string ⟨#[111, 118, 101, 114, 102, 108, 111, 119]⟩] 63))) (fun k => k = Eb)
      exact hb.setCell (p := ⟨Eb, 0, none⟩) (.inl rfl) _
  · by_cases hd2 : d > 0
    · omega
    · skip
      rw [if_neg hd] at hx
      rw [if_neg hd2] at hz
      have hx2 := fun (t : TypeId) (W' : World) => run_float_arith (P := Tryd.prog) W' .quo t .f64 _ _ _ hx
      have hz2 := fun (t : TypeId) (W' : World) => run_float_arith (P := Tryd.prog) W' .mul t .f64 _ _ _ hz
      have g1 : decide (d ≥ 0) = false := decide_eq_false hd
      have g2 : decide (0 ≤ d) = false := decide_eq_false hd
      have g3 : decide (d > 0) = false := decide_eq_false hd2
      have g4 : decide (0 < d) = false := decide_eq_false hd2
      clear hI hN hF hJ hY hR hs hx hz n1 n2 hE hd hd2 hm
      go_enter Tryd.func21, Tryd.ntmps21
      go_wp2_with (first | (go_at_call 41; refine (err_calls _ _).mono ?_; rintro e w1 ⟨rfl, hw1⟩; subst w1; have y0 := blk_alloc HE.out (.cells #[.string ⟨#[111, 118, 101, 114, 102, 108, 111, 119]⟩] 63); have z0 := blk_frozen y0 0; have ce := (blk_cell y0 0).trans (rfl : _ = some Value.nilIface); have Y0 := Aside0.mk (blk_drewN y0 1); clear y0) | (go_at_call 7; first | (refine (HI.out _).mono ?_; rintro e w1 ⟨rfl, hw1⟩; subst w1; clear HI) | (refine (HJ.out _).mono ?_; rintro e w1 ⟨rfl, hw1⟩; subst w1)) | (go_at_call 8; first | (refine (HN.out _).mono ?_; rintro e w1 ⟨rfl, hw1⟩; subst w1; clear HN) | (refine (HM.out _).mono ?_; rintro e w1 ⟨rfl, hw1⟩; subst w1)) | (go_at_call 11; refine (HF.out _).mono ?_; rintro e w1 ⟨rfl, hw1⟩; subst w1) | (go_at_call 40; refine (HY.out _).mono ?_; rintro e w1 ⟨rfl, hw1⟩; subst w1) | (go_at_fn fnOf m; refine (HY.out _).mono ?_; rintro e w1 ⟨rfl, hw1⟩; subst w1))
      go_ret
      refine ⟨rfl, ⟨_, blk_set Y0.out 0 _⟩, ?_, rfl, rfl, rfl⟩
      have hb := Kept.of_below (below_drew1 (below_alloc (Below.refl w.heap.size w) (.cells #[.string ⟨#[111, 118, 101, 114, 102, 108, 111, 119]⟩] 63))) (fun k => k = Eb)
      exact hb.setCell (p := ⟨Eb, 0, none⟩) (.inl rfl) _
end Go.Proofs.YtobdmcdbfpjpiaaDoor.Q
