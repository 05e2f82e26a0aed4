/- kernels.RoundFloat; impl.RoundFloat64. -/
import Derived.Test.YtobdmcdbfpjpiaaDoorWi
namespace Go.Proofs.YtobdmcdbfpjpiaaDoor.Q
open Go.RowKit Go.Proofs.YtobdmcdbfpjpiaaDoorW.PrintWords Go.Proofs.YtobdmcdbfpjpiaaDoorW.PrintLast Go.Proofs.YtobdmcdbfpjpiaaDoorW.PrintMore
set_option linter.unusedVariables false
set_option linter.unusedSimpArgs false
def intF (n : Nat) : Nat := floatOfInt .f64 (n : Int)
theorem int_tab (d : Int) (h : d.natAbs < 23) : floatOfInt .f64 d = W (decide (d < 0)) (intF d.natAbs) ∧ intF d.natAbs < 9223372036854775808 ∧ floatToIntVal .f64 (intF d.natAbs) .i64 = some (d.natAbs : Int) := by
  have ht : (List.range 45).all (fun i => (floatOfInt .f64 ((i : Int) - 22) == W (decide ((i : Int) - 22 < 0)) (intF ((i : Int) - 22).natAbs)) && decide (intF ((i : Int) - 22).natAbs < 9223372036854775808) && (floatToIntVal .f64 (intF ((i : Int) - 22).natAbs) .i64 == some (((i : Int) - 22).natAbs : Int))) = true := by decide +kernel
  have := List.all_eq_true.1 ht (d + 22).toNat (List.mem_range.2 (by omega))
  have e : (((d + 22).toNat : Nat) : Int) - 22 = d := by omega
  rw [e] at this
  simp only [Bool.and_eq_true, beq_iff_eq, decide_eq_true_eq] at this
  exact ⟨this.1.1, this.1.2, this.2⟩
set_option maxHeartbeats 4000000 in
set_option maxRecDepth 100000 in
theorem kernel_calls (sv : Bool) (rv : Nat) (hv : rv < 9223372036854775808) (d : Int) (hd : d.natAbs < 23) (m : Nat) (hm : m < 10) (w : World) (hG : Glob w) :
    Calls Tryd.prog 13 #[.float .f64 (W sv rv), .int .i64 d, .int .i8 (m : Int)] w fun e w' => ∃ ev, e = .returned (.tuple #[.float .f64 (resF (W sv rv) d m).1, ev]) ∧ ((resF (W sv rv) d m).2 = true → ev = .nilIface) ∧ ((resF (W sv rv) d m).2 = false → ∃ a, ev = .iface 61 (.pointer a)) ∧ Below w.heap.size w w' := by
  obtain ⟨i1, i2, i3⟩ := int_tab d hd
  have HA := Aside0.mk (fun W' => abs_calls (decide (d < 0)) (intF d.natAbs) i2 W')
  have hcv := fun (W' : World) => run_convert_float_int (P := Tryd.prog) W' 26 3 .f64 .i64 (intF d.natAbs) (d.natAbs : Int) (by rw [Tryd.underlying26]; rfl) Tryd.underlying3 i3
  have HP := Aside0.mk (pow10_calls d.natAbs hd w hG)
  have HI := Aside0.mk (fun W' => impl_calls m hm W')
  have HC := Aside0.mk (fun W' Rb Eb hR hE => call_all Rb Eb sv rv hv d hd m hm W' hR hE)
  have hsf := fun (a : Addr) (x : Nat) (W' : World) => run_store (a := a) (m := .plain) Tryd.prog W' (.float .f64 x) rfl
  have hsg := fun (a : Addr) (x : Nat) (W' : World) => run_store (a := a) (m := .plain) Tryd.prog W' (.func (.func x) #[] #[]) rfl
  generalize resF (W sv rv) d m = res at *
  generalize W sv rv = v at *
  clear hG hv
  go_enter Tryd.func13, Tryd.ntmps13
  go_wp2_with (first | (go_at_call 14; refine (HA.out _).mono ?_; rintro e w2 ⟨rfl, hw1⟩; subst w2) | (go_at_call 19; refine HP.out.mono ?_; rintro e w1 ⟨rfl, hdr⟩; have DR := Aside0.mk hdr; clear hdr) | (go_at_call 20; refine (HI.out _).mono ?_; rintro e w2 ⟨rfl, hw1⟩; subst w2))
  obtain ⟨W3, hW3⟩ : ∃ W3, W3 = (w1.alloc (rndO (tenW d.natAbs) d m)).alloc (.cells #[.nilIface] 38) := ⟨_, rfl⟩
  have k1 : W3.heap[w1.heap.size]? = some (rndO (tenW d.natAbs) d m) := by rw [hW3]; exact blk_alloc (blk_new w1 _) _
  have k2 : W3.heap[w1.heap.size + 1]? = some (.cells #[.nilIface] 38 (0, 0)) := by
    have h := blk_new (w1.alloc (rndO (tenW d.natAbs) d m)) (.cells #[.nilIface] 38)
    rw [hW3]
    simpa using h
  have k3 : Below w1.heap.size w1 W3 := by rw [hW3]; exact below_alloc (below_alloc (Below.refl _ _) _) _
  have HC2 := Aside0.mk (HC.out W3 w1.heap.size (w1.heap.size + 1) k1 k2)
  rw [hW3] at HC2
  clear HC k1 k2
  go_at_call 21
  refine HC2.out.mono ?_
  rw [← hW3]
  rintro e w2 ⟨rfl, ⟨ev, h1, h2, h3⟩, h4⟩
  have ce : w2.cell? ⟨w1.heap.size + 1, 0, none⟩ = some ev := (blk_cell h1 0).trans rfl
  have FX := Aside0.mk (And.intro h2 (And.intro h3 (And.intro h4 k3)))
  clear h1 h2 h3 h4 k3 hW3 HC2
  go_wp2
  go_quiet (fail)
  go_wp2
  go_ret2
  obtain ⟨h2, h3, h4, k3⟩ := FX.out
  refine ⟨ev, rfl, h2, h3, ?_⟩
  obtain ⟨n1, rfl⟩ := DR.out
  have b3 : Below w.heap.size w W3 := (pw_below_drewN (Below.refl _ _) n1).trans k3
  refine pw_below_drewN (b3.trans ⟨h4.os, h4.tape, h4.output, h4.kept.1, fun i hi => ?_⟩) _
  exact h4.kept.2 i (Nat.lt_of_lt_of_le hi b3.size) (by show ¬ i = w.heap.size + 1; omega)
end Go.Proofs.YtobdmcdbfpjpiaaDoor.Q
