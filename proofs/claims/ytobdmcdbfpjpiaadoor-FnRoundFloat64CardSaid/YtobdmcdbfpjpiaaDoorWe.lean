/- kernels.round's call. -/
import Derived.Test.YtobdmcdbfpjpiaaDoorWd
import Derived.Shelf.Abstract
namespace Go.Proofs.YtobdmcdbfpjpiaaDoor.Q
open Go.RowKit Go.Proofs.YtobdmcdbfpjpiaaDoorW.PrintWords Go.Proofs.YtobdmcdbfpjpiaaDoorW.PrintLast Go.Proofs.YtobdmcdbfpjpiaaDoorW.PrintMore
set_option linter.unusedVariables false
set_option linter.unusedSimpArgs false
/-- inf - inf: a NaN of bits that are not told. -/
theorem run_nan_sub (x y : Nat) (h : Ieee.double.sub x y = none) (t : TypeId) (w : World) : ∃ s r, 9218868437227405312 < r ∧ r < 9223372036854775808 ∧ (binOp .sub t (.float .f64 x) (.float .f64 y)).run Tryd.prog w = .ok (.float .f64 (W s r)) w.drew := by
  have hf : FloatKind.f64.format.sub x y = none := h
  obtain ⟨n, hn⟩ : ∃ n, n = w.tape w.drawn (.nanBits .f64 x y) := ⟨_, rfl⟩
  refine ⟨n % 2 == 1, 9218868437227405312 + 1 + n / 2 % (2 ^ 52 - 1), by omega, by omega, ?_⟩
  have e : W (n % 2 == 1) (9218868437227405312 + 1 + n / 2 % (2 ^ 52 - 1)) = n % 2 * 2 ^ 63 + 9218868437227405312 + 1 + n / 2 % (2 ^ 52 - 1) := by
    unfold W
    rcases Nat.mod_two_eq_zero_or_one n with c | c <;> rw [c] <;> simp <;> omega
  rw [e, hn]
  simp [binOp, Op.floatArith, hf, choose, Sem.run, Question.forced, Question.cut]
/-- What is rounded with: a power of ten, digits, the mode and its function. -/
def rndO (P : Nat) (d : Int) (m : Nat) : Obj := .cells #[.float .f64 P, .int .i64 d, .int .i8 (m : Int), .func (.func (fnOf m)) #[] #[]] 47 (0, 0)
/-- A call that yields a value and leaves the world. -/
abbrev Gives (f : Nat) (args : Array Value) (v : Value) : Prop := ∀ W : World, Calls Tryd.prog f args W fun e w' => e = .returned v ∧ w' = W
theorem enter_fn (m : Nat) (h : m < 10) (args : Array Value) (W : World) : (callFunc (fnOf m) args).run Tryd.prog W = .ok (.enter (fnOf m) args) W := by
  match m, h with
  | 0, _ => rfl
  | 1, _ => rfl
  | 2, _ => rfl
  | 3, _ => rfl
  | 4, _ => rfl
  | 5, _ => rfl
  | 6, _ => rfl
  | 7, _ => rfl
  | 8, _ => rfl
  | 9, _ => rfl
set_option maxHeartbeats 4000000 in
set_option maxRecDepth 100000 in
theorem call_skip (Rb Eb v P : Nat) (d : Int) (m : Nat) (b : Bool) (hI : Gives 7 #[.float .f64 v, .int .i64 0] (.bool b)) (hN : Gives 8 #[.float .f64 v] (.bool true)) (w : World) :
    Calls Tryd.prog 21 #[.pointer (some ⟨Rb, 0, none⟩), .float .f64 v, .pointer (some ⟨Eb, 0, none⟩)] w fun e w' => e = .returned (.float .f64 v) ∧ w' = w := by
  have HI := Aside0.mk hI
  have HN := Aside0.mk hN
  clear hI hN
  cases b
  · go_enter Tryd.func21, Tryd.ntmps21
    go_wp2_with (first | (go_at_call 7; refine (HI.out _).mono ?_; rintro e w1 ⟨rfl, hw1⟩; subst w1) | (go_at_call 8; refine (HN.out _).mono ?_; rintro e w1 ⟨rfl, hw1⟩; subst w1))
    go_ret
    exact ⟨rfl, rfl⟩
  · go_enter Tryd.func21, Tryd.ntmps21
    go_wp2_with (first | (go_at_call 7; refine (HI.out _).mono ?_; rintro e w1 ⟨rfl, hw1⟩; subst w1) | (go_at_call 8; refine (HN.out _).mono ?_; rintro e w1 ⟨rfl, hw1⟩; subst w1))
    go_ret
    exact ⟨rfl, rfl⟩
/-- What is scaled. -/
def scaleW (d : Int) (v P : Nat) : Option Nat := if d ≥ 0 then Ieee.double.mul v P else Ieee.double.div v P
def backW (d : Int) (y P : Nat) : Option Nat := if d > 0 then Ieee.double.div y P else Ieee.double.mul y P
set_option maxHeartbeats 4000000 in
set_option maxRecDepth 100000 in
theorem call_whole (Rb Eb v P x low fr : Nat) (d : Int) (m : Nat) (hI : Gives 7 #[.float .f64 v, .int .i64 0] (.bool false)) (hN : Gives 8 #[.float .f64 v] (.bool false)) (hF : Gives 11 #[.float .f64 x] (.float .f64 low))
    (hx : scaleW d v P = some x) (hs : Ieee.double.sub x low = some fr) (h0 : (Ieee.double.order fr 0 == some .eq) = true) (w : World) (hR : w.heap[Rb]? = some (rndO P d m)) :
    Calls Tryd.prog 21 #[.pointer (some ⟨Rb, 0, none⟩), .float .f64 v, .pointer (some ⟨Eb, 0, none⟩)] w fun e w' => e = .returned (.float .f64 v) ∧ w' = w := by
  have HI := Aside0.mk hI
  have HN := Aside0.mk hN
  have HF := Aside0.mk hF
  have c0 : w.cell? ⟨Rb, 0, none⟩ = some (.float .f64 P) := (blk_cell hR 0).trans rfl
  have c1 : w.cell? ⟨Rb, 1, none⟩ = some (.int .i64 d) := (blk_cell hR 1).trans rfl
  have hs2 := fun (t : TypeId) (W' : World) => run_float_arith (P := Tryd.prog) W' .sub t .f64 _ _ _ hs
  have h0' : (FloatKind.f64.format.order fr 0 == some .eq) = true := h0
  unfold scaleW at hx
  by_cases hd : d ≥ 0
  · rw [if_pos hd] at hx
    have hx2 := fun (t : TypeId) (W' : World) => run_float_arith (P := Tryd.prog) W' .mul t .f64 _ _ _ hx
    have g1 : decide (d ≥ 0) = true := decide_eq_true hd
    have g2 : decide (0 ≤ d) = true := decide_eq_true hd
    clear hI hN hF hR hs hx h0 hd
    go_enter Tryd.func21, Tryd.ntmps21
    go_wp2_with (first | (go_at_call 7; refine (HI.out _).mono ?_; rintro e w1 ⟨rfl, hw1⟩; subst w1) | (go_at_call 8; refine (HN.out _).mono ?_; rintro e w1 ⟨rfl, hw1⟩; subst w1) | (go_at_call 11; refine (HF.out _).mono ?_; rintro e w1 ⟨rfl, hw1⟩; subst w1))
    go_ret
    exact ⟨rfl, rfl⟩
  · rw [if_neg hd] at hx
    have hx2 := fun (t : TypeId) (W' : World) => run_float_arith (P := Tryd.prog) W' .quo t .f64 _ _ _ hx
    have g1 : decide (d ≥ 0) = false := decide_eq_false hd
    have g2 : decide (0 ≤ d) = false := decide_eq_false hd
    clear hI hN hF hR hs hx h0 hd
    go_enter Tryd.func21, Tryd.ntmps21
    go_wp2_with (first | (go_at_call 7; refine (HI.out _).mono ?_; rintro e w1 ⟨rfl, hw1⟩; subst w1) | (go_at_call 8; refine (HN.out _).mono ?_; rintro e w1 ⟨rfl, hw1⟩; subst w1) | (go_at_call 11; refine (HF.out _).mono ?_; rintro e w1 ⟨rfl, hw1⟩; subst w1))
    go_ret
    exact ⟨rfl, rfl⟩
end Go.Proofs.YtobdmcdbfpjpiaaDoor.Q
