/- kernels.round's call: a number that is rounded. -/
import Derived.Test.YtobdmcdbfpjpiaaDoorWe
namespace Go.Proofs.YtobdmcdbfpjpiaaDoor.Q
open Go.RowKit Go.Proofs.YtobdmcdbfpjpiaaDoorW.PrintWords Go.Proofs.YtobdmcdbfpjpiaaDoorW.PrintLast Go.Proofs.YtobdmcdbfpjpiaaDoorW.PrintMore
set_option linter.unusedVariables false
set_option linter.unusedSimpArgs false
set_option maxHeartbeats 1000000 in
set_option maxRecDepth 100000 in
theorem err_calls (s : ByteArray) (w : World) : Calls Tryd.prog 41 #[.string s] w fun e w' => e = .returned (.iface 61 (.pointer (some ⟨w.heap.size, 0, none⟩))) ∧ w' = w.alloc (.cells #[.string s] 63) := by
  go_enter Tryd.func41, Tryd.ntmps41
  go_wp2
  go_ret
  exact ⟨rfl, rfl⟩
set_option maxHeartbeats 8000000 in
set_option maxRecDepth 100000 in
theorem call_r_part (Rb Eb v P x low fr y z : Nat) (d : Int) (m : Nat) (hm10 : m < 10) (hm : 4 ≤ m) (hI : Gives 7 #[.float .f64 v, .int .i64 0] (.bool false)) (hN : Gives 8 #[.float .f64 v] (.bool false)) (hF : Gives 11 #[.float .f64 x] (.float .f64 low)) (hY : Gives 40 #[.float .f64 x] (.float .f64 y)) (hJ : Gives 7 #[.float .f64 z, .int .i64 0] (.bool false)) (hM : Gives 8 #[.float .f64 z] (.bool false))
    (hx : scaleW d v P = some x) (hs : Ieee.double.sub x low = some fr) (h0 : (Ieee.double.order fr 0 == some .eq) = false) (hb : (Ieee.double.order fr 4602678819172646912 != some .eq) = true) (hz : backW d y P = some z) (w : World) (hR : w.heap[Rb]? = some (rndO P d m)) :
    Calls Tryd.prog 21 #[.pointer (some ⟨Rb, 0, none⟩), .float .f64 v, .pointer (some ⟨Eb, 0, none⟩)] w fun e w' => e = .returned (.float .f64 z) ∧ w' = w := by
  have HI := Aside0.mk hI
  have HN := Aside0.mk hN
  have HF := Aside0.mk hF
  have HJ := Aside0.mk hJ
  have HM := Aside0.mk hM
  have HY := Aside0.mk hY
  have c0 : w.cell? ⟨Rb, 0, none⟩ = some (.float .f64 P) := (blk_cell hR 0).trans rfl
  have c1 : w.cell? ⟨Rb, 1, none⟩ = some (.int .i64 d) := (blk_cell hR 1).trans rfl
  have c2 : w.cell? ⟨Rb, 2, none⟩ = some (.int .i8 (m : Int)) := (blk_cell hR 2).trans rfl
  have c3 : w.cell? ⟨Rb, 3, none⟩ = some (.func (.func (fnOf m)) #[] #[]) := (blk_cell hR 3).trans rfl
  have hcf := enter_fn m hm10
  have hs2 := fun (t : TypeId) (W' : World) => run_float_arith (P := Tryd.prog) W' .sub t .f64 _ _ _ hs
  have h0' : (FloatKind.f64.format.order fr 0 == some .eq) = false := h0
  have hb' : (FloatKind.f64.format.order fr 4602678819172646912 != some .eq) = true := hb
  have gm : decide ((m : Int) ≥ 4) = true := decide_eq_true (by omega)
  have gm2 : decide ((4 : Int) ≤ (m : Int)) = true := decide_eq_true (by omega)
  have gm3 : decide (4 ≤ m) = true := decide_eq_true (by omega)
  unfold scaleW at hx
  unfold backW at hz
  by_cases hd : d ≥ 0
  · by_cases hd2 : d > 0
    · skip
      rw [if_pos hd] at hx
      rw [if_pos hd2] at hz
      have hx2 := fun (t : TypeId) (W' : World) => run_float_arith (P := Tryd.prog) W' .mul t .f64 _ _ _ hx
      have hz2 := fun (t : TypeId) (W' : World) => run_float_arith (P := Tryd.prog) W' .quo t .f64 _ _ _ hz
      have g1 : decide (d ≥ 0) = true := decide_eq_true hd
      have g2 : decide (0 ≤ d) = true := decide_eq_true hd
      have g3 : decide (d > 0) = true := decide_eq_true hd2
      have g4 : decide (0 < d) = true := decide_eq_true hd2
      clear hI hN hF hJ hY hR hs hx h0 hz hM hb hd hd2 hm
      go_enter Tryd.func21, Tryd.ntmps21
      go_wp2_with (first | (go_at_call 7; first | (refine (HI.out _).mono ?_; rintro e w1 ⟨rfl, hw1⟩; subst w1; clear HI) | (refine (HJ.out _).mono ?_; rintro e w1 ⟨rfl, hw1⟩; subst w1)) | (go_at_call 8; first | (refine (HN.out _).mono ?_; rintro e w1 ⟨rfl, hw1⟩; subst w1; clear HN) | (refine (HM.out _).mono ?_; rintro e w1 ⟨rfl, hw1⟩; subst w1)) | (go_at_call 11; refine (HF.out _).mono ?_; rintro e w1 ⟨rfl, hw1⟩; subst w1) | (go_at_call 40; refine (HY.out _).mono ?_; rintro e w1 ⟨rfl, hw1⟩; subst w1) | (go_at_fn fnOf m; refine (HY.out _).mono ?_; rintro e w1 ⟨rfl, hw1⟩; subst w1))
      go_ret
      exact ⟨rfl, rfl⟩
    · skip
      rw [if_pos hd] at hx
      rw [if_neg hd2] at hz
      have hx2 := fun (t : TypeId) (W' : World) => run_float_arith (P := Tryd.prog) W' .mul t .f64 _ _ _ hx
      have hz2 := fun (t : TypeId) (W' : World) => run_float_arith (P := Tryd.prog) W' .mul t .f64 _ _ _ hz
      have g1 : decide (d ≥ 0) = true := decide_eq_true hd
      have g2 : decide (0 ≤ d) = true := decide_eq_true hd
      have g3 : decide (d > 0) = false := decide_eq_false hd2
      have g4 : decide (0 < d) = false := decide_eq_false hd2
      clear hI hN hF hJ hY hR hs hx h0 hz hM hb hd hd2 hm
      go_enter Tryd.func21, Tryd.ntmps21
      go_wp2_with (first | (go_at_call 7; first | (refine (HI.out _).mono ?_; rintro e w1 ⟨rfl, hw1⟩; subst w1; clear HI) | (refine (HJ.out _).mono ?_; rintro e w1 ⟨rfl, hw1⟩; subst w1)) | (go_at_call 8; first | (refine (HN.out _).mono ?_; rintro e w1 ⟨rfl, hw1⟩; subst w1; clear HN) | (refine (HM.out _).mono ?_; rintro e w1 ⟨rfl, hw1⟩; subst w1)) | (go_at_call 11; refine (HF.out _).mono ?_; rintro e w1 ⟨rfl, hw1⟩; subst w1) | (go_at_call 40; refine (HY.out _).mono ?_; rintro e w1 ⟨rfl, hw1⟩; subst w1) | (go_at_fn fnOf m; refine (HY.out _).mono ?_; rintro e w1 ⟨rfl, hw1⟩; subst w1))
      go_ret
      exact ⟨rfl, rfl⟩
  · by_cases hd2 : d > 0
    · omega
    · skip
      rw [if_neg hd] at hx
      rw [if_neg hd2] at hz
      have hx2 := fun (t : TypeId) (W' : World) => run_float_arith (P := Tryd.prog) W' .quo t .f64 _ _ _ hx
      have hz2 := fun (t : TypeId) (W' : World) => run_float_arith (P := Tryd.prog) W' .mul t .f64 _ _ _ hz
      have g1 : decide (d ≥ 0) = false := decide_eq_false hd
      have g2 : decide (0 ≤ d) = false := decide_eq_false hd
      have g3 : decide (d > 0) = false := decide_eq_false hd2
      have g4 : decide (0 < d) = false := decide_eq_false hd2
      clear hI hN hF hJ hY hR hs hx h0 hz hM hb hd hd2 hm
      go_enter Tryd.func21, Tryd.ntmps21
      go_wp2_with (first | (go_at_call 7; first | (refine (HI.out _).mono ?_; rintro e w1 ⟨rfl, hw1⟩; subst w1; clear HI) | (refine (HJ.out _).mono ?_; rintro e w1 ⟨rfl, hw1⟩; subst w1)) | (go_at_call 8; first | (refine (HN.out _).mono ?_; rintro e w1 ⟨rfl, hw1⟩; subst w1; clear HN) | (refine (HM.out _).mono ?_; rintro e w1 ⟨rfl, hw1⟩; subst w1)) | (go_at_call 11; refine (HF.out _).mono ?_; rintro e w1 ⟨rfl, hw1⟩; subst w1) | (go_at_call 40; refine (HY.out _).mono ?_; rintro e w1 ⟨rfl, hw1⟩; subst w1) | (go_at_fn fnOf m; refine (HY.out _).mono ?_; rintro e w1 ⟨rfl, hw1⟩; subst w1))
      go_ret
      exact ⟨rfl, rfl⟩
set_option maxHeartbeats 8000000 in
set_option maxRecDepth 100000 in
theorem call_r_over (Rb Eb v P x low fr y z : Nat) (d : Int) (m : Nat) (hm10 : m < 10) (hm : 4 ≤ m) (hI : Gives 7 #[.float .f64 v, .int .i64 0] (.bool false)) (hN : Gives 8 #[.float .f64 v] (.bool false)) (hF : Gives 11 #[.float .f64 x] (.float .f64 low)) (hY : Gives 40 #[.float .f64 x] (.float .f64 y)) (hJ : Gives 7 #[.float .f64 z, .int .i64 0] (.bool true)) 
    (hx : scaleW d v P = some x) (hs : Ieee.double.sub x low = some fr) (h0 : (Ieee.double.order fr 0 == some .eq) = false) (hb : (Ieee.double.order fr 4602678819172646912 != some .eq) = true) (hz : backW d y P = some z) (w : World) (hR : w.heap[Rb]? = some (rndO P d m)) (hE : w.heap[Eb]? = some (.cells #[.nilIface] 38 (0, 0))) :
    Calls Tryd.prog 21 #[.pointer (some ⟨Rb, 0, none⟩), .float .f64 v, .pointer (some ⟨Eb, 0, none⟩)] w fun e w' => e = .returned (.float .f64 v) ∧ (∃ a, w'.heap[Eb]? = some (.cells #[.iface 61 (.pointer a)] 38 (0, 0))) ∧ Kept w w' (fun k => k = Eb) ∧ w'.os = w.os ∧ w'.tape = w.tape ∧ w'.output = w.output := by
  have HI := Aside0.mk hI
  have HN := Aside0.mk hN
  have HF := Aside0.mk hF
  have HJ := Aside0.mk hJ
  have HY := Aside0.mk hY
  have c0 : w.cell? ⟨Rb, 0, none⟩ = some (.float .f64 P) := (blk_cell hR 0).trans rfl
  have c1 : w.cell? ⟨Rb, 1, none⟩ = some (.int .i64 d) := (blk_cell hR 1).trans rfl
  have c2 : w.cell? ⟨Rb, 2, none⟩ = some (.int .i8 (m : Int)) := (blk_cell hR 2).trans rfl
  have c3 : w.cell? ⟨Rb, 3, none⟩ = some (.func (.func (fnOf m)) #[] #[]) := (blk_cell hR 3).trans rfl
  have HE := Aside0.mk hE
  have hcf := enter_fn m hm10
  have hs2 := fun (t : TypeId) (W' : World) => run_float_arith (P := Tryd.prog) W' .sub t .f64 _ _ _ hs
  have h0' : (FloatKind.f64.format.order fr 0 == some .eq) = false := h0
  have hb' : (FloatKind.f64.format.order fr 4602678819172646912 != some .eq) = true := hb
  have gm : decide ((m : Int) ≥ 4) = true := decide_eq_true (by omega)
  have gm2 : decide ((4 : Int) ≤ (m : Int)) = true := decide_eq_true (by omega)
  have gm3 : decide (4 ≤ m) = true := decide_eq_true (by omega)
  unfold scaleW at hx
  unfold backW at hz
  by_cases hd : d ≥ 0
  · by_cases hd2 : d > 0
    · skip
      rw [if_pos hd] at hx
      rw [if_pos hd2] at hz
      have hx2 := fun (t : TypeId) (W' : World) => run_float_arith (P := Tryd.prog) W' .mul t .f64 _ _ _ hx
      have hz2 := fun (t : TypeId) (W' : World) => run_float_arith (P := Tryd.prog) W' .quo t .f64 _ _ _ hz
      have g1 : decide (d ≥ 0) = true := decide_eq_true hd
      have g2 : decide (0 ≤ d) = true := decide_eq_true hd
      have g3 : decide (d > 0) = true := decide_eq_true hd2
      have g4 : decide (0 < d) = true := decide_eq_true hd2
      clear hI hN hF hJ hY hR hs hx h0 hz hE hb hd hd2 hm
      go_enter Tryd.func21, Tryd.ntmps21
      go_wp2_with (first | (go_at_call 41; refine (err_calls _ _).mono ?_; rintro e w1 ⟨rfl, hw1⟩; subst w1; have y0 := blk_alloc HE.out (.cells #[.string ⟨#[111, 118, 101, 114, 102, 108, 111, 119]⟩] 63); have z0 := blk_frozen y0 0; have ce := (blk_cell y0 0).trans (rfl : _ = some Value.nilIface); have Y0 := Aside0.mk y0; clear y0) | (go_at_call 7; first | (refine (HI.out _).mono ?_; rintro e w1 ⟨rfl, hw1⟩; subst w1; clear HI) | (refine (HJ.out _).mono ?_; rintro e w1 ⟨rfl, hw1⟩; subst w1)) | (go_at_call 8; first | (refine (HN.out _).mono ?_; rintro e w1 ⟨rfl, hw1⟩; subst w1; clear HN) | (refine (HM.out _).mono ?_; rintro e w1 ⟨rfl, hw1⟩; subst w1)) | (go_at_call 11; refine (HF.out _).mono ?_; rintro e w1 ⟨rfl, hw1⟩; subst w1) | (go_at_call 40; refine (HY.out _).mono ?_; rintro e w1 ⟨rfl, hw1⟩; subst w1) | (go_at_fn fnOf m; refine (HY.out _).mono ?_; rintro e w1 ⟨rfl, hw1⟩; subst w1))
      go_ret
      refine ⟨rfl, ⟨_, blk_set Y0.out 0 _⟩, ?_, rfl, rfl, rfl⟩
      have hb := Kept.of_below (below_alloc (Below.refl w.heap.size w) (.cells #[.string ⟨#[111, 118, 101, 114, 102, 108, 111, 119]⟩] 63)) (fun k => k = Eb)
      exact hb.setCell (p := ⟨Eb, 0, none⟩) (.inl rfl) _
    · skip
      rw [if_pos hd] at hx
      rw [if_neg hd2] at hz
      have hx2 := fun (t : TypeId) (W' : World) => run_float_arith (P := Tryd.prog) W' .mul t .f64 _ _ _ hx
      have hz2 := fun (t : TypeId) (W' : World) => run_float_arith (P := Tryd.prog) W' .mul t .f64 _ _ _ hz
      have g1 : decide (d ≥ 0) = true := decide_eq_true hd
      have g2 : decide (0 ≤ d) = true := decide_eq_true hd
      have g3 : decide (d > 0) = false := decide_eq_false hd2
      have g4 : decide (0 < d) = false := decide_eq_false hd2
      clear hI hN hF hJ hY hR hs hx h0 hz hE hb hd hd2 hm
      go_enter Tryd.func21, Tryd.ntmps21
      go_wp2_with (first | (go_at_call 41; refine (err_calls _ _).mono ?_; rintro e w1 ⟨rfl, hw1⟩; subst w1; have y0 := blk_alloc HE.out (.cells #[.string ⟨#[111, 118, 101, 114, 102, 108, 111, 119]⟩] 63); have z0 := blk_frozen y0 0; have ce := (blk_cell y0 0).trans (rfl : _ = some Value.nilIface); have Y0 := Aside0.mk y0; clear y0) | (go_at_call 7; first | (refine (HI.out _).mono ?_; rintro e w1 ⟨rfl, hw1⟩; subst w1; clear HI) | (refine (HJ.out _).mono ?_; rintro e w1 ⟨rfl, hw1⟩; subst w1)) | (go_at_call 8; first | (refine (HN.out _).mono ?_; rintro e w1 ⟨rfl, hw1⟩; subst w1; clear HN) | (refine (HM.out _).mono ?_; rintro e w1 ⟨rfl, hw1⟩; subst w1)) | (go_at_call 11; refine (HF.out _).mono ?_; rintro e w1 ⟨rfl, hw1⟩; subst w1) | (go_at_call 40; refine (HY.out _).mono ?_; rintro e w1 ⟨rfl, hw1⟩; subst w1) | (go_at_fn fnOf m; refine (HY.out _).mono ?_; rintro e w1 ⟨rfl, hw1⟩; subst w1))
      go_ret
      refine ⟨rfl, ⟨_, blk_set Y0.out 0 _⟩, ?_, rfl, rfl, rfl⟩
      have hb := Kept.of_below (below_alloc (Below.refl w.heap.size w) (.cells #[.string ⟨#[111, 118, 101, 114, 102, 108, 111, 119]⟩] 63)) (fun k => k = Eb)
      exact hb.setCell (p := ⟨Eb, 0, none⟩) (.inl rfl) _
  · by_cases hd2 : d > 0
    · omega
    · skip
      rw [if_neg hd] at hx
      rw [if_neg hd2] at hz
      have hx2 := fun (t : TypeId) (W' : World) => run_float_arith (P := Tryd.prog) W' .quo t .f64 _ _ _ hx
      have hz2 := fun (t : TypeId) (W' : World) => run_float_arith (P := Tryd.prog) W' .mul t .f64 _ _ _ hz
      have g1 : decide (d ≥ 0) = false := decide_eq_false hd
      have g2 : decide (0 ≤ d) = false := decide_eq_false hd
      have g3 : decide (d > 0) = false := decide_eq_false hd2
      have g4 : decide (0 < d) = false := decide_eq_false hd2
      clear hI hN hF hJ hY hR hs hx h0 hz hE hb hd hd2 hm
      go_enter Tryd.func21, Tryd.ntmps21
      go_wp2_with (first | (go_at_call 41; refine (err_calls _ _).mono ?_; rintro e w1 ⟨rfl, hw1⟩; subst w1; have y0 := blk_alloc HE.out (.cells #[.string ⟨#[111, 118, 101, 114, 102, 108, 111, 119]⟩] 63); have z0 := blk_frozen y0 0; have ce := (blk_cell y0 0).trans (rfl : _ = some Value.nilIface); have Y0 := Aside0.mk y0; clear y0) | (go_at_call 7; first | (refine (HI.out _).mono ?_; rintro e w1 ⟨rfl, hw1⟩; subst w1; clear HI) | (refine (HJ.out _).mono ?_; rintro e w1 ⟨rfl, hw1⟩; subst w1)) | (go_at_call 8; first | (refine (HN.out _).mono ?_; rintro e w1 ⟨rfl, hw1⟩; subst w1; clear HN) | (refine (HM.out _).mono ?_; rintro e w1 ⟨rfl, hw1⟩; subst w1)) | (go_at_call 11; refine (HF.out _).mono ?_; rintro e w1 ⟨rfl, hw1⟩; subst w1) | (go_at_call 40; refine (HY.out _).mono ?_; rintro e w1 ⟨rfl, hw1⟩; subst w1) | (go_at_fn fnOf m; refine (HY.out _).mono ?_; rintro e w1 ⟨rfl, hw1⟩; subst w1))
      go_ret
      refine ⟨rfl, ⟨_, blk_set Y0.out 0 _⟩, ?_, rfl, rfl, rfl⟩
      have hb := Kept.of_below (below_alloc (Below.refl w.heap.size w) (.cells #[.string ⟨#[111, 118, 101, 114, 102, 108, 111, 119]⟩] 63)) (fun k => k = Eb)
      exact hb.setCell (p := ⟨Eb, 0, none⟩) (.inl rfl) _
set_option maxHeartbeats 8000000 in
set_option maxRecDepth 100000 in
theorem call_h_part (Rb Eb v P x low fr y z : Nat) (d : Int) (m : Nat) (hm10 : m < 10) (hm : 4 ≤ m) (hI : Gives 7 #[.float .f64 v, .int .i64 0] (.bool false)) (hN : Gives 8 #[.float .f64 v] (.bool false)) (hF : Gives 11 #[.float .f64 x] (.float .f64 low)) (hY : Gives (fnOf m) #[.float .f64 x] (.float .f64 y)) (hJ : Gives 7 #[.float .f64 z, .int .i64 0] (.bool false)) (hM : Gives 8 #[.float .f64 z] (.bool false))
    (hx : scaleW d v P = some x) (hs : Ieee.double.sub x low = some fr) (h0 : (Ieee.double.order fr 0 == some .eq) = false) (hb : (Ieee.double.order fr 4602678819172646912 != some .eq) = false) (hz : backW d y P = some z) (w : World) (hR : w.heap[Rb]? = some (rndO P d m)) :
    Calls Tryd.prog 21 #[.pointer (some ⟨Rb, 0, none⟩), .float .f64 v, .pointer (some ⟨Eb, 0, none⟩)] w fun e w' => e = .returned (.float .f64 z) ∧ w' = w := by
  have HI := Aside0.mk hI
  have HN := Aside0.mk hN
  have HF := Aside0.mk hF
  have HJ := Aside0.mk hJ
  have HM := Aside0.mk hM
  have HY := Aside0.mk hY
  have c0 : w.cell? ⟨Rb, 0, none⟩ = some (.float .f64 P) := (blk_cell hR 0).trans rfl
  have c1 : w.cell? ⟨Rb, 1, none⟩ = some (.int .i64 d) := (blk_cell hR 1).trans rfl
  have c2 : w.cell? ⟨Rb, 2, none⟩ = some (.int .i8 (m : Int)) := (blk_cell hR 2).trans rfl
  have c3 : w.cell? ⟨Rb, 3, none⟩ = some (.func (.func (fnOf m)) #[] #[]) := (blk_cell hR 3).trans rfl
  have hcf := enter_fn m hm10
  have hs2 := fun (t : TypeId) (W' : World) => run_float_arith (P := Tryd.prog) W' .sub t .f64 _ _ _ hs
  have h0' : (FloatKind.f64.format.order fr 0 == some .eq) = false := h0
  have hb' : (FloatKind.f64.format.order fr 4602678819172646912 != some .eq) = false := hb
  have gm : decide ((m : Int) ≥ 4) = true := decide_eq_true (by omega)
  have gm2 : decide ((4 : Int) ≤ (m : Int)) = true := decide_eq_true (by omega)
  have gm3 : decide (4 ≤ m) = true := decide_eq_true (by omega)
  unfold scaleW at hx
  unfold backW at hz
  by_cases hd : d ≥ 0
  · by_cases hd2 : d > 0
    · skip
      rw [if_pos hd] at hx
      rw [if_pos hd2] at hz
      have hx2 := fun (t : TypeId) (W' : World) => run_float_arith (P := Tryd.prog) W' .mul t .f64 _ _ _ hx
      have hz2 := fun (t : TypeId) (W' : World) => run_float_arith (P := Tryd.prog) W' .quo t .f64 _ _ _ hz
      have g1 : decide (d ≥ 0) = true := decide_eq_true hd
      have g2 : decide (0 ≤ d) = true := decide_eq_true hd
      have g3 : decide (d > 0) = true := decide_eq_true hd2
      have g4 : decide (0 < d) = true := decide_eq_true hd2
      clear hI hN hF hJ hY hR hs hx h0 hz hM hb hd hd2 hm
      go_enter Tryd.func21, Tryd.ntmps21
      go_wp2_with (first | (go_at_call 7; first | (refine (HI.out _).mono ?_; rintro e w1 ⟨rfl, hw1⟩; subst w1; clear HI) | (refine (HJ.out _).mono ?_; rintro e w1 ⟨rfl, hw1⟩; subst w1)) | (go_at_call 8; first | (refine (HN.out _).mono ?_; rintro e w1 ⟨rfl, hw1⟩; subst w1; clear HN) | (refine (HM.out _).mono ?_; rintro e w1 ⟨rfl, hw1⟩; subst w1)) | (go_at_call 11; refine (HF.out _).mono ?_; rintro e w1 ⟨rfl, hw1⟩; subst w1) | (go_at_call 40; refine (HY.out _).mono ?_; rintro e w1 ⟨rfl, hw1⟩; subst w1) | (go_at_fn fnOf m; refine (HY.out _).mono ?_; rintro e w1 ⟨rfl, hw1⟩; subst w1))
      go_ret
      exact ⟨rfl, rfl⟩
    · skip
      rw [if_pos hd] at hx
      rw [if_neg hd2] at hz
      have hx2 := fun (t : TypeId) (W' : World) => run_float_arith (P := Tryd.prog) W' .mul t .f64 _ _ _ hx
      have hz2 := fun (t : TypeId) (W' : World) => run_float_arith (P := Tryd.prog) W' .mul t .f64 _ _ _ hz
      have g1 : decide (d ≥ 0) = true := decide_eq_true hd
      have g2 : decide (0 ≤ d) = true := decide_eq_true hd
      have g3 : decide (d > 0) = false := decide_eq_false hd2
      have g4 : decide (0 < d) = false := decide_eq_false hd2
      clear hI hN hF hJ hY hR hs hx h0 hz hM hb hd hd2 hm
      go_enter Tryd.func21, Tryd.ntmps21
      go_wp2_with (first | (go_at_call 7; first | (refine (HI.out _).mono ?_; rintro e w1 ⟨rfl, hw1⟩; subst w1; clear HI) | (refine (HJ.out _).mono ?_; rintro e w1 ⟨rfl, hw1⟩; subst w1)) | (go_at_call 8; first | (refine (HN.out _).mono ?_; rintro e w1 ⟨rfl, hw1⟩; subst w1; clear HN) | (refine (HM.out _).mono ?_; rintro e w1 ⟨rfl, hw1⟩; subst w1)) | (go_at_call 11; refine (HF.out _).mono ?_; rintro e w1 ⟨rfl, hw1⟩; subst w1) | (go_at_call 40; refine (HY.out _).mono ?_; rintro e w1 ⟨rfl, hw1⟩; subst w1) | (go_at_fn fnOf m; refine (HY.out _).mono ?_; rintro e w1 ⟨rfl, hw1⟩; subst w1))
      go_ret
      exact ⟨rfl, rfl⟩
  · by_cases hd2 : d > 0
    · omega
    · skip
      rw [if_neg hd] at hx
      rw [if_neg hd2] at hz
      have hx2 := fun (t : TypeId) (W' : World) => run_float_arith (P := Tryd.prog) W' .quo t .f64 _ _ _ hx
      have hz2 := fun (t : TypeId) (W' : World) => run_float_arith (P := Tryd.prog) W' .mul t .f64 _ _ _ hz
      have g1 : decide (d ≥ 0) = false := decide_eq_false hd
      have g2 : decide (0 ≤ d) = false := decide_eq_false hd
      have g3 : decide (d > 0) = false := decide_eq_false hd2
      have g4 : decide (0 < d) = false := decide_eq_false hd2
      clear hI hN hF hJ hY hR hs hx h0 hz hM hb hd hd2 hm
      go_enter Tryd.func21, Tryd.ntmps21
      go_wp2_with (first | (go_at_call 7; first | (refine (HI.out _).mono ?_; rintro e w1 ⟨rfl, hw1⟩; subst w1; clear HI) | (refine (HJ.out _).mono ?_; rintro e w1 ⟨rfl, hw1⟩; subst w1)) | (go_at_call 8; first | (refine (HN.out _).mono ?_; rintro e w1 ⟨rfl, hw1⟩; subst w1; clear HN) | (refine (HM.out _).mono ?_; rintro e w1 ⟨rfl, hw1⟩; subst w1)) | (go_at_call 11; refine (HF.out _).mono ?_; rintro e w1 ⟨rfl, hw1⟩; subst w1) | (go_at_call 40; refine (HY.out _).mono ?_; rintro e w1 ⟨rfl, hw1⟩; subst w1) | (go_at_fn fnOf m; refine (HY.out _).mono ?_; rintro e w1 ⟨rfl, hw1⟩; subst w1))
      go_ret
      exact ⟨rfl, rfl⟩
set_option maxHeartbeats 8000000 in
set_option maxRecDepth 100000 in
theorem call_h_over (Rb Eb v P x low fr y z : Nat) (d : Int) (m : Nat) (hm10 : m < 10) (hm : 4 ≤ m) (hI : Gives 7 #[.float .f64 v, .int .i64 0] (.bool false)) (hN : Gives 8 #[.float .f64 v] (.bool false)) (hF : Gives 11 #[.float .f64 x] (.float .f64 low)) (hY : Gives (fnOf m) #[.float .f64 x] (.float .f64 y)) (hJ : Gives 7 #[.float .f64 z, .int .i64 0] (.bool true)) 
    (hx : scaleW d v P = some x) (hs : Ieee.double.sub x low = some fr) (h0 : (Ieee.double.order fr 0 == some .eq) = false) (hb : (Ieee.double.order fr 4602678819172646912 != some .eq) = false) (hz : backW d y P = some z) (w : World) (hR : w.heap[Rb]? = some (rndO P d m)) (hE : w.heap[Eb]? = some (.cells #[.nilIface] 38 (0, 0))) :
    Calls Tryd.prog 21 #[.pointer (some ⟨Rb, 0, none⟩), .float .f64 v, .pointer (some ⟨Eb, 0, none⟩)] w fun e w' => e = .returned (.float .f64 v) ∧ (∃ a, w'.heap[Eb]? = some (.cells #[.iface 61 (.pointer a)] 38 (0, 0))) ∧ Kept w w' (fun k => k = Eb) ∧ w'.os = w.os ∧ w'.tape = w.tape ∧ w'.output = w.output := by
  have HI := Aside0.mk hI
  have HN := Aside0.mk hN
  have HF := Aside0.mk hF
  have HJ := Aside0.mk hJ
  have HY := Aside0.mk hY
  have c0 : w.cell? ⟨Rb, 0, none⟩ = some (.float .f64 P) := (blk_cell hR 0).trans rfl
  have c1 : w.cell? ⟨Rb, 1, none⟩ = some (.int .i64 d) := (blk_cell hR 1).trans rfl
  have c2 : w.cell? ⟨Rb, 2, none⟩ = some (.int .i8 (m : Int)) := (blk_cell hR 2).trans rfl
  have c3 : w.cell? ⟨Rb, 3, none⟩ = some (.func (.func (fnOf m)) #[] #[]) := (blk_cell hR 3).trans rfl
  have HE := Aside0.mk hE
  have hcf := enter_fn m hm10
  have hs2 := fun (t : TypeId) (W' : World) => run_float_arith (P := Tryd.prog) W' .sub t .f64 _ _ _ hs
  have h0' : (FloatKind.f64.format.order fr 0 == some .eq) = false := h0
  have hb' : (FloatKind.f64.format.order fr 4602678819172646912 != some .eq) = false := hb
  have gm : decide ((m : Int) ≥ 4) = true := decide_eq_true (by omega)
  have gm2 : decide ((4 : Int) ≤ (m : Int)) = true := decide_eq_true (by omega)
  have gm3 : decide (4 ≤ m) = true := decide_eq_true (by omega)
  unfold scaleW at hx
  unfold backW at hz
  by_cases hd : d ≥ 0
  · by_cases hd2 : d > 0
    · skip
      rw [if_pos hd] at hx
      rw [if_pos hd2] at hz
      have hx2 := fun (t : TypeId) (W' : World) => run_float_arith (P := Tryd.prog) W' .mul t .f64 _ _ _ hx
      have hz2 := fun (t : TypeId) (W' : World) => run_float_arith (P := Tryd.prog) W' .quo t .f64 _ _ _ hz
      have g1 : decide (d ≥ 0) = true := decide_eq_true hd
      have g2 : decide (0 ≤ d) = true := decide_eq_true hd
      have g3 : decide (d > 0) = true := decide_eq_true hd2
      have g4 : decide (0 < d) = true := decide_eq_true hd2
      clear hI hN hF hJ hY hR hs hx h0 hz hE hb hd hd2 hm
      go_enter Tryd.func21, Tryd.ntmps21
      go_wp2_with (first | (go_at_call 41; refine (err_calls _ _).mono ?_; rintro e w1 ⟨rfl, hw1⟩; subst w1; have y0 := blk_alloc HE.out (.cells #[.string ⟨#[111, 118, 101, 114, 102, 108, 111, 119]⟩] 63); have z0 := blk_frozen y0 0; have ce := (blk_cell y0 0).trans (rfl : _ = some Value.nilIface); have Y0 := Aside0.mk y0; clear y0) | (go_at_call 7; first | (refine (HI.out _).mono ?_; rintro e w1 ⟨rfl, hw1⟩; subst w1; clear HI) | (refine (HJ.out _).mono ?_; rintro e w1 ⟨rfl, hw1⟩; subst w1)) | (go_at_call 8; first | (refine (HN.out _).mono ?_; rintro e w1 ⟨rfl, hw1⟩; subst w1; clear HN) | (refine (HM.out _).mono ?_; rintro e w1 ⟨rfl, hw1⟩; subst w1)) | (go_at_call 11; refine (HF.out _).mono ?_; rintro e w1 ⟨rfl, hw1⟩; subst w1) | (go_at_call 40; refine (HY.out _).mono ?_; rintro e w1 ⟨rfl, hw1⟩; subst w1) | (go_at_fn fnOf m; refine (HY.out _).mono ?_; rintro e w1 ⟨rfl, hw1⟩; subst w1))
      go_ret
      refine ⟨rfl, ⟨_, blk_set Y0.out 0 _⟩, ?_, rfl, rfl, rfl⟩
      have hb := Kept.of_below (below_alloc (Below.refl w.heap.size w) (.cells #[.string ⟨#[111, 118, 101, 114, 102, 108, 111, 119]⟩] 63)) (fun k => k = Eb)
      exact hb.setCell (p := ⟨Eb, 0, none⟩) (.inl rfl) _
    · skip
      rw [if_pos hd] at hx
      rw [if_neg hd2] at hz
      have hx2 := fun (t : TypeId) (W' : World) => run_float_arith (P := Tryd.prog) W' .mul t .f64 _ _ _ hx
      have hz2 := fun (t : TypeId) (W' : World) => run_float_arith (P := Tryd.prog) W' .mul t .f64 _ _ _ hz
      have g1 : decide (d ≥ 0) = true := decide_eq_true hd
      have g2 : decide (0 ≤ d) = true := decide_eq_true hd
      have g3 : decide (d > 0) = false := decide_eq_false hd2
      have g4 : decide (0 < d) = false := decide_eq_false hd2
      clear hI hN hF hJ hY hR hs hx h0 hz hE hb hd hd2 hm
      go_enter Tryd.func21, Tryd.ntmps21
      go_wp2_with (first | (go_at_call 41; refine (err_calls _ _).mono ?_; rintro e w1 ⟨rfl, hw1⟩; subst w1; have y0 := blk_alloc HE.out (.cells #[.string ⟨#[111, 118, 101, 114, 102, 108, 111, 119]⟩] 63); have z0 := blk_frozen y0 0; have ce := (blk_cell y0 0).trans (rfl : _ = some Value.nilIface); have Y0 := Aside0.mk y0; clear y0) | (go_at_call 7; first | (refine (HI.out _).mono ?_; rintro e w1 ⟨rfl, hw1⟩; subst w1; clear HI) | (refine (HJ.out _).mono ?_; rintro e w1 ⟨rfl, hw1⟩; subst w1)) | (go_at_call 8; first | (refine (HN.out _).mono ?_; rintro e w1 ⟨rfl, hw1⟩; subst w1; clear HN) | (refine (HM.out _).mono ?_; rintro e w1 ⟨rfl, hw1⟩; subst w1)) | (go_at_call 11; refine (HF.out _).mono ?_; rintro e w1 ⟨rfl, hw1⟩; subst w1) | (go_at_call 40; refine (HY.out _).mono ?_; rintro e w1 ⟨rfl, hw1⟩; subst w1) | (go_at_fn fnOf m; refine (HY.out _).mono ?_; rintro e w1 ⟨rfl, hw1⟩; subst w1))
      go_ret
      refine ⟨rfl, ⟨_, blk_set Y0.out 0 _⟩, ?_, rfl, rfl, rfl⟩
      have hb := Kept.of_below (below_alloc (Below.refl w.heap.size w) (.cells #[.string ⟨#[111, 118, 101, 114, 102, 108, 111, 119]⟩] 63)) (fun k => k = Eb)
      exact hb.setCell (p := ⟨Eb, 0, none⟩) (.inl rfl) _
  · by_cases hd2 : d > 0
    · omega
    · skip
      rw [if_neg hd] at hx
      rw [if_neg hd2] at hz
      have hx2 := fun (t : TypeId) (W' : World) => run_float_arith (P := Tryd.prog) W' .quo t .f64 _ _ _ hx
      have hz2 := fun (t : TypeId) (W' : World) => run_float_arith (P := Tryd.prog) W' .mul t .f64 _ _ _ hz
      have g1 : decide (d ≥ 0) = false := decide_eq_false hd
      have g2 : decide (0 ≤ d) = false := decide_eq_false hd
      have g3 : decide (d > 0) = false := decide_eq_false hd2
      have g4 : decide (0 < d) = false := decide_eq_false hd2
      clear hI hN hF hJ hY hR hs hx h0 hz hE hb hd hd2 hm
      go_enter Tryd.func21, Tryd.ntmps21
      go_wp2_with (first | (go_at_call 41; refine (err_calls _ _).mono ?_; rintro e w1 ⟨rfl, hw1⟩; subst w1; have y0 := blk_alloc HE.out (.cells #[.string ⟨#[111, 118, 101, 114, 102, 108, 111, 119]⟩] 63); have z0 := blk_frozen y0 0; have ce := (blk_cell y0 0).trans (rfl : _ = some Value.nilIface); have Y0 := Aside0.mk y0; clear y0) | (go_at_call 7; first | (refine (HI.out _).mono ?_; rintro e w1 ⟨rfl, hw1⟩; subst w1; clear HI) | (refine (HJ.out _).mono ?_; rintro e w1 ⟨rfl, hw1⟩; subst w1)) | (go_at_call 8; first | (refine (HN.out _).mono ?_; rintro e w1 ⟨rfl, hw1⟩; subst w1; clear HN) | (refine (HM.out _).mono ?_; rintro e w1 ⟨rfl, hw1⟩; subst w1)) | (go_at_call 11; refine (HF.out _).mono ?_; rintro e w1 ⟨rfl, hw1⟩; subst w1) | (go_at_call 40; refine (HY.out _).mono ?_; rintro e w1 ⟨rfl, hw1⟩; subst w1) | (go_at_fn fnOf m; refine (HY.out _).mono ?_; rintro e w1 ⟨rfl, hw1⟩; subst w1))
      go_ret
      refine ⟨rfl, ⟨_, blk_set Y0.out 0 _⟩, ?_, rfl, rfl, rfl⟩
      have hb := Kept.of_below (below_alloc (Below.refl w.heap.size w) (.cells #[.string ⟨#[111, 118, 101, 114, 102, 108, 111, 119]⟩] 63)) (fun k => k = Eb)
      exact hb.setCell (p := ⟨Eb, 0, none⟩) (.inl rfl) _
set_option maxHeartbeats 8000000 in
set_option maxRecDepth 100000 in
theorem call_w_part (Rb Eb v P x low fr y z : Nat) (d : Int) (m : Nat) (hm10 : m < 10) (hm : m < 4) (hI : Gives 7 #[.float .f64 v, .int .i64 0] (.bool false)) (hN : Gives 8 #[.float .f64 v] (.bool false)) (hF : Gives 11 #[.float .f64 x] (.float .f64 low)) (hY : Gives (fnOf m) #[.float .f64 x] (.float .f64 y)) (hJ : Gives 7 #[.float .f64 z, .int .i64 0] (.bool false)) (hM : Gives 8 #[.float .f64 z] (.bool false))
    (hx : scaleW d v P = some x) (hs : Ieee.double.sub x low = some fr) (h0 : (Ieee.double.order fr 0 == some .eq) = false)  (hz : backW d y P = some z) (w : World) (hR : w.heap[Rb]? = some (rndO P d m)) :
    Calls Tryd.prog 21 #[.pointer (some ⟨Rb, 0, none⟩), .float .f64 v, .pointer (some ⟨Eb, 0, none⟩)] w fun e w' => e = .returned (.float .f64 z) ∧ w' = w := by
  have HI := Aside0.mk hI
  have HN := Aside0.mk hN
  have HF := Aside0.mk hF
  have HJ := Aside0.mk hJ
  have HM := Aside0.mk hM
  have HY := Aside0.mk hY
  have c0 : w.cell? ⟨Rb, 0, none⟩ = some (.float .f64 P) := (blk_cell hR 0).trans rfl
  have c1 : w.cell? ⟨Rb, 1, none⟩ = some (.int .i64 d) := (blk_cell hR 1).trans rfl
  have c2 : w.cell? ⟨Rb, 2, none⟩ = some (.int .i8 (m : Int)) := (blk_cell hR 2).trans rfl
  have c3 : w.cell? ⟨Rb, 3, none⟩ = some (.func (.func (fnOf m)) #[] #[]) := (blk_cell hR 3).trans rfl
  have hcf := enter_fn m hm10
  have hs2 := fun (t : TypeId) (W' : World) => run_float_arith (P := Tryd.prog) W' .sub t .f64 _ _ _ hs
  have h0' : (FloatKind.f64.format.order fr 0 == some .eq) = false := h0
  have gm : decide ((m : Int) ≥ 4) = false := decide_eq_false (by omega)
  have gm2 : decide ((4 : Int) ≤ (m : Int)) = false := decide_eq_false (by omega)
  have gm3 : decide (4 ≤ m) = false := decide_eq_false (by omega)
  unfold scaleW at hx
  unfold backW at hz
  by_cases hd : d ≥ 0
  · by_cases hd2 : d > 0
    · skip
      rw [if_pos hd] at hx
      rw [if_pos hd2] at hz
      have hx2 := fun (t : TypeId) (W' : World) => run_float_arith (P := Tryd.prog) W' .mul t .f64 _ _ _ hx
      have hz2 := fun (t : TypeId) (W' : World) => run_float_arith (P := Tryd.prog) W' .quo t .f64 _ _ _ hz
      have g1 : decide (d ≥ 0) = true := decide_eq_true hd
      have g2 : decide (0 ≤ d) = true := decide_eq_true hd
      have g3 : decide (d > 0) = true := decide_eq_true hd2
      have g4 : decide (0 < d) = true := decide_eq_true hd2
      clear hI hN hF hJ hY hR hs hx h0 hz hM hd hd2 hm
      go_enter Tryd.func21, Tryd.ntmps21
      go_wp2_with (first | (go_at_call 7; first | (refine (HI.out _).mono ?_; rintro e w1 ⟨rfl, hw1⟩; subst w1; clear HI) | (refine (HJ.out _).mono ?_; rintro e w1 ⟨rfl, hw1⟩; subst w1)) | (go_at_call 8; first | (refine (HN.out _).mono ?_; rintro e w1 ⟨rfl, hw1⟩; subst w1; clear HN) | (refine (HM.out _).mono ?_; rintro e w1 ⟨rfl, hw1⟩; subst w1)) | (go_at_call 11; refine (HF.out _).mono ?_; rintro e w1 ⟨rfl, hw1⟩; subst w1) | (go_at_call 40; refine (HY.out _).mono ?_; rintro e w1 ⟨rfl, hw1⟩; subst w1) | (go_at_fn fnOf m; refine (HY.out _).mono ?_; rintro e w1 ⟨rfl, hw1⟩; subst w1))
      go_ret
      exact ⟨rfl, rfl⟩
    · skip
      rw [if_pos hd] at hx
      rw [if_neg hd2] at hz
      have hx2 := fun (t : TypeId) (W' : World) => run_float_arith (P := Tryd.prog) W' .mul t .f64 _ _ _ hx
      have hz2 := fun (t : TypeId) (W' : World) => run_float_arith (P := Tryd.prog) W' .mul t .f64 _ _ _ hz
      have g1 : decide (d ≥ 0) = true := decide_eq_true hd
      have g2 : decide (0 ≤ d) = true := decide_eq_true hd
      have g3 : decide (d > 0) = false := decide_eq_false hd2
      have g4 : decide (0 < d) = false := decide_eq_false hd2
      clear hI hN hF hJ hY hR hs hx h0 hz hM hd hd2 hm
      go_enter Tryd.func21, Tryd.ntmps21
      go_wp2_with (first | (go_at_call 7; first | (refine (HI.out _).mono ?_; rintro e w1 ⟨rfl, hw1⟩; subst w1; clear HI) | (refine (HJ.out _).mono ?_; rintro e w1 ⟨rfl, hw1⟩; subst w1)) | (go_at_call 8; first | (refine (HN.out _).mono ?_; rintro e w1 ⟨rfl, hw1⟩; subst w1; clear HN) | (refine (HM.out _).mono ?_; rintro e w1 ⟨rfl, hw1⟩; subst w1)) | (go_at_call 11; refine (HF.out _).mono ?_; rintro e w1 ⟨rfl, hw1⟩; subst w1) | (go_at_call 40; refine (HY.out _).mono ?_; rintro e w1 ⟨rfl, hw1⟩; subst w1) | (go_at_fn fnOf m; refine (HY.out _).mono ?_; rintro e w1 ⟨rfl, hw1⟩; subst w1))
      go_ret
      exact ⟨rfl, rfl⟩
  · by_cases hd2 : d > 0
    · omega
    · skip
      rw [if_neg hd] at hx
      rw [if_neg hd2] at hz
      have hx2 := fun (t : TypeId) (W' : World) => run_float_arith (P := Tryd.prog) W' .quo t .f64 _ _ _ hx
      have hz2 := fun (t : TypeId) (W' : World) => run_float_arith (P := Tryd.prog) W' .mul t .f64 _ _ _ hz
      have g1 : decide (d ≥ 0) = false := decide_eq_false hd
      have g2 : decide (0 ≤ d) = false := decide_eq_false hd
      have g3 : decide (d > 0) = false := decide_eq_false hd2
      have g4 : decide (0 < d) = false := decide_eq_false hd2
      clear hI hN hF hJ hY hR hs hx h0 hz hM hd hd2 hm
      go_enter Tryd.func21, Tryd.ntmps21
      go_wp2_with (first | (go_at_call 7; first | (refine (HI.out _).mono ?_; rintro e w1 ⟨rfl, hw1⟩; subst w1; clear HI) | (refine (HJ.out _).mono ?_; rintro e w1 ⟨rfl, hw1⟩; subst w1)) | (go_at_call 8; first | (refine (HN.out _).mono ?_; rintro e w1 ⟨rfl, hw1⟩; subst w1; clear HN) | (refine (HM.out _).mono ?_; rintro e w1 ⟨rfl, hw1⟩; subst w1)) | (go_at_call 11; refine (HF.out _).mono ?_; rintro e w1 ⟨rfl, hw1⟩; subst w1) | (go_at_call 40; refine (HY.out _).mono ?_; rintro e w1 ⟨rfl, hw1⟩; subst w1) | (go_at_fn fnOf m; refine (HY.out _).mono ?_; rintro e w1 ⟨rfl, hw1⟩; subst w1))
      go_ret
      exact ⟨rfl, rfl⟩
set_option maxHeartbeats 8000000 in
set_option maxRecDepth 100000 in
theorem call_w_over (Rb Eb v P x low fr y z : Nat) (d : Int) (m : Nat) (hm10 : m < 10) (hm : m < 4) (hI : Gives 7 #[.float .f64 v, .int .i64 0] (.bool false)) (hN : Gives 8 #[.float .f64 v] (.bool false)) (hF : Gives 11 #[.float .f64 x] (.float .f64 low)) (hY : Gives (fnOf m) #[.float .f64 x] (.float .f64 y)) (hJ : Gives 7 #[.float .f64 z, .int .i64 0] (.bool true)) 
    (hx : scaleW d v P = some x) (hs : Ieee.double.sub x low = some fr) (h0 : (Ieee.double.order fr 0 == some .eq) = false)  (hz : backW d y P = some z) (w : World) (hR : w.heap[Rb]? = some (rndO P d m)) (hE : w.heap[Eb]? = some (.cells #[.nilIface] 38 (0, 0))) :
    Calls Tryd.prog 21 #[.pointer (some ⟨Rb, 0, none⟩), .float .f64 v, .pointer (some ⟨Eb, 0, none⟩)] w fun e w' => e = .returned (.float .f64 v) ∧ (∃ a, w'.heap[Eb]? = some (.cells #[.iface 61 (.pointer a)] 38 (0, 0))) ∧ Kept w w' (fun k => k = Eb) ∧ w'.os = w.os ∧ w'.tape = w.tape ∧ w'.output = w.output := by
  have HI := Aside0.mk hI
  have HN := Aside0.mk hN
  have HF := Aside0.mk hF
  have HJ := Aside0.mk hJ
  have HY := Aside0.mk hY
  have c0 : w.cell? ⟨Rb, 0, none⟩ = some (.float .f64 P) := (blk_cell hR 0).trans rfl
  have c1 : w.cell? ⟨Rb, 1, none⟩ = some (.int .i64 d) := (blk_cell hR 1).trans rfl
  have c2 : w.cell? ⟨Rb, 2, none⟩ = some (.int .i8 (m : Int)) := (blk_cell hR 2).trans rfl
  have c3 : w.cell? ⟨Rb, 3, none⟩ = some (.func (.func (fnOf m)) #[] #[]) := (blk_cell hR 3).trans rfl
  have HE := Aside0.mk hE
  have hcf := enter_fn m hm10
  have hs2 := fun (t : TypeId) (W' : World) => run_float_arith (P := Tryd.prog) W' .sub t .f64 _ _ _ hs
  have h0' : (FloatKind.f64.format.order fr 0 == some .eq) = false := h0
  have gm : decide ((m : Int) ≥ 4) = false := decide_eq_false (by omega)
  have gm2 : decide ((4 : Int) ≤ (m : Int)) = false := decide_eq_false (by omega)
  have gm3 : decide (4 ≤ m) = false := decide_eq_false (by omega)
  unfold scaleW at hx
  unfold backW at hz
  by_cases hd : d ≥ 0
  · by_cases hd2 : d > 0
    · skip
      rw [if_pos hd] at hx
      rw [if_pos hd2] at hz
      have hx2 := fun (t : TypeId) (W' : World) => run_float_arith (P := Tryd.prog) W' .mul t .f64 _ _ _ hx
      have hz2 := fun (t : TypeId) (W' : World) => run_float_arith (P := Tryd.prog) W' .quo t .f64 _ _ _ hz
      have g1 : decide (d ≥ 0) = true := decide_eq_true hd
      have g2 : decide (0 ≤ d) = true := decide_eq_true hd
      have g3 : decide (d > 0) = true := decide_eq_true hd2
      have g4 : decide (0 < d) = true := decide_eq_true hd2
      clear hI hN hF hJ hY hR hs hx h0 hz hE hd hd2 hm
      go_enter Tryd.func21, Tryd.ntmps21
      go_wp2_with (first | (go_at_call 41; refine (err_calls _ _).mono ?_; rintro e w1 ⟨rfl, hw1⟩; subst w1; have y0 := blk_alloc HE.out (.cells #[.string ⟨#[111, 118, 101, 114, 102, 108, 111, 119]⟩] 63); have z0 := blk_frozen y0 0; have ce := (blk_cell y0 0).trans (rfl : _ = some Value.nilIface); have Y0 := Aside0.mk y0; clear y0) | (go_at_call 7; first | (refine (HI.out _).mono ?_; rintro e w1 ⟨rfl, hw1⟩; subst w1; clear HI) | (refine (HJ.out _).mono ?_; rintro e w1 ⟨rfl, hw1⟩; subst w1)) | (go_at_call 8; first | (refine (HN.out _).mono ?_; rintro e w1 ⟨rfl, hw1⟩; subst w1; clear HN) | (refine (HM.out _).mono ?_; rintro e w1 ⟨rfl, hw1⟩; subst w1)) | (go_at_call 11; refine (HF.out _).mono ?_; rintro e w1 ⟨rfl, hw1⟩; subst w1) | (go_at_call 40; refine (HY.out _).mono ?_; rintro e w1 ⟨rfl, hw1⟩; subst w1) | (go_at_fn fnOf m; refine (HY.out _).mono ?_; rintro e w1 ⟨rfl, hw1⟩; subst w1))
      go_ret
      refine ⟨rfl, ⟨_, blk_set Y0.out 0 _⟩, ?_, rfl, rfl, rfl⟩
      have hb := Kept.of_below (below_alloc (Below.refl w.heap.size w) (.cells #[.string ⟨#[111, 118, 101, 114, 102, 108, 111, 119]⟩] 63)) (fun k => k = Eb)
      exact hb.setCell (p := ⟨Eb, 0, none⟩) (.inl rfl) _
    · skip
      rw [if_pos hd] at hx
      rw [if_neg hd2] at hz
      have hx2 := fun (t : TypeId) (W' : World) => run_float_arith (P := Tryd.prog) W' .mul t .f64 _ _ _ hx
      have hz2 := fun (t : TypeId) (W' : World) => run_float_arith (P := Tryd.prog) W' .mul t .f64 _ _ _ hz
      have g1 : decide (d ≥ 0) = true := decide_eq_true hd
      have g2 : decide (0 ≤ d) = true := decide_eq_true hd
      have g3 : decide (d > 0) = false := decide_eq_false hd2
      have g4 : decide (0 < d) = false := decide_eq_false hd2
      clear hI hN hF hJ hY hR hs hx h0 hz hE hd hd2 hm
      go_enter Tryd.func21, Tryd.ntmps21
      go_wp2_with (first | (go_at_call 41; refine (err_calls _ _).mono ?_; rintro e w1 ⟨rfl, hw1⟩; subst w1; have y0 := blk_alloc HE.out (.cells #[.string ⟨#[111, 118, 101, 114, 102, 108, 111, 119]⟩] 63); have z0 := blk_frozen y0 0; have ce := (blk_cell y0 0).trans (rfl : _ = some Value.nilIface); have Y0 := Aside0.mk y0; clear y0) | (go_at_call 7; first | (refine (HI.out _).mono ?_; rintro e w1 ⟨rfl, hw1⟩; subst w1; clear HI) | (refine (HJ.out _).mono ?_; rintro e w1 ⟨rfl, hw1⟩; subst w1)) | (go_at_call 8; first | (refine (HN.out _).mono ?_; rintro e w1 ⟨rfl, hw1⟩; subst w1; clear HN) | (refine (HM.out _).mono ?_; rintro e w1 ⟨rfl, hw1⟩; subst w1)) | (go_at_call 11; refine (HF.out _).mono ?_; rintro e w1 ⟨rfl, hw1⟩; subst w1) | (go_at_call 40; refine (HY.out _).mono ?_; rintro e w1 ⟨rfl, hw1⟩; subst w1) | (go_at_fn fnOf m; refine (HY.out _).mono ?_; rintro e w1 ⟨rfl, hw1⟩; subst w1))
      go_ret
      refine ⟨rfl, ⟨_, blk_set Y0.out 0 _⟩, ?_, rfl, rfl, rfl⟩
      have hb := Kept.of_below (below_alloc (Below.refl w.heap.size w) (.cells #[.string ⟨#[111, 118, 101, 114, 102, 108, 111, 119]⟩] 63)) (fun k => k = Eb)
      exact hb.setCell (p := ⟨Eb, 0, none⟩) (.inl rfl) _
  · by_cases hd2 : d > 0
    · omega
    · skip
      rw [if_neg hd] at hx
      rw [if_neg hd2] at hz
      have hx2 := fun (t : TypeId) (W' : World) => run_float_arith (P := Tryd.prog) W' .quo t .f64 _ _ _ hx
      have hz2 := fun (t : TypeId) (W' : World) => run_float_arith (P := Tryd.prog) W' .mul t .f64 _ _ _ hz
      have g1 : decide (d ≥ 0) = false := decide_eq_false hd
      have g2 : decide (0 ≤ d) = false := decide_eq_false hd
      have g3 : decide (d > 0) = false := decide_eq_false hd2
      have g4 : decide (0 < d) = false := decide_eq_false hd2
      clear hI hN hF hJ hY hR hs hx h0 hz hE hd hd2 hm
      go_enter Tryd.func21, Tryd.ntmps21
      go_wp2_with (first | (go_at_call 41; refine (err_calls _ _).mono ?_; rintro e w1 ⟨rfl, hw1⟩; subst w1; have y0 := blk_alloc HE.out (.cells #[.string ⟨#[111, 118, 101, 114, 102, 108, 111, 119]⟩] 63); have z0 := blk_frozen y0 0; have ce := (blk_cell y0 0).trans (rfl : _ = some Value.nilIface); have Y0 := Aside0.mk y0; clear y0) | (go_at_call 7; first | (refine (HI.out _).mono ?_; rintro e w1 ⟨rfl, hw1⟩; subst w1; clear HI) | (refine (HJ.out _).mono ?_; rintro e w1 ⟨rfl, hw1⟩; subst w1)) | (go_at_call 8; first | (refine (HN.out _).mono ?_; rintro e w1 ⟨rfl, hw1⟩; subst w1; clear HN) | (refine (HM.out _).mono ?_; rintro e w1 ⟨rfl, hw1⟩; subst w1)) | (go_at_call 11; refine (HF.out _).mono ?_; rintro e w1 ⟨rfl, hw1⟩; subst w1) | (go_at_call 40; refine (HY.out _).mono ?_; rintro e w1 ⟨rfl, hw1⟩; subst w1) | (go_at_fn fnOf m; refine (HY.out _).mono ?_; rintro e w1 ⟨rfl, hw1⟩; subst w1))
      go_ret
      refine ⟨rfl, ⟨_, blk_set Y0.out 0 _⟩, ?_, rfl, rfl, rfl⟩
      have hb := Kept.of_below (below_alloc (Below.refl w.heap.size w) (.cells #[.string ⟨#[111, 118, 101, 114, 102, 108, 111, 119]⟩] 63)) (fun k => k = Eb)
      exact hb.setCell (p := ⟨Eb, 0, none⟩) (.inl rfl) _
end Go.Proofs.YtobdmcdbfpjpiaaDoor.Q
