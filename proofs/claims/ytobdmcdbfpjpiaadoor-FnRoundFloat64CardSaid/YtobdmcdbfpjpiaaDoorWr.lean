/- The law of RoundFloat64, walked, case by case (printed by genlaw_r.py). -/
import Derived.Test.YtobdmcdbfpjpiaaDoorWq
namespace Go.Proofs.YtobdmcdbfpjpiaaDoor.Q
open Go.RowKit Go.Proofs.YtobdmcdbfpjpiaaDoorW.PrintWords Go.Proofs.YtobdmcdbfpjpiaaDoorW.PrintLast Go.Proofs.YtobdmcdbfpjpiaaDoorW.PrintMore
set_option linter.unusedVariables false
set_option linter.unusedSimpArgs false
theorem awake_calls (w : World) (hG : Glob w) : Calls Tryd.prog 4 #[.int .u64 4608308318706860032, .int .i64 1, .int .i64 0] w fun e w' => e = .returned (.tuple #[.int .u64 4608083138725491507, .bool true]) ∧ Below w.heap.size w w' := by
  have := impl_walk false 4608308318706860032 (by omega) 1 (by decide) 0 (by omega) w hG
  unfold outF at this
  rw [W_f, awake_res] at this
  exact this
/-- What the program is said to yield. -/
def Yields2 (v : Nat) (d : Int) (m : Nat) (z : Nat) (ok : Bool) : Prop := ∀ W', Glob W' → Calls Tryd.prog 4 #[.int .u64 (v : Int), .int .i64 d, .int .i64 (m : Int)] W' fun e w' => e = .returned (.tuple #[.int .u64 (z : Int), .bool ok]) ∧ Below W'.heap.size W' w'
/-- The law, at one input. -/
def LawAt (v : Nat) (d m : Int) (w : World) : Prop := Calls Tryd.prog 3 #[.int .u64 (v : Int), .int .i64 d, .int .i64 m] w fun e w' => e = .returned (.bool true) ∧ Below w.heap.size w w'
set_option maxHeartbeats 1000000 in
set_option maxRecDepth 100000 in
theorem law_far (v : Nat) (d m : Int) (h : d < -22 ∨ d > 22 ∨ m < 0 ∨ m > 9) (w : World) (hG : Glob w) : LawAt v d m w := by
  unfold LawAt
  have HA := Aside0.mk (awake_calls w hG)
  have e5 := ext5
  have e6 := ext6
  have o1 : (FloatKind.f64.format.order 4608083138725491507 4608083138725491507 == some .eq) = true := by decide
  have hh : (decide (d < -22) || decide (d > 22) || decide (m < 0) || decide (m > 9)) = true := by simp; omega
  clear h hG
  generalize g1 : decide (d < -22) = b1 at hh
  generalize g2 : decide (d > 22) = b2 at hh
  generalize g3 : decide (m < 0) = b3 at hh
  generalize g4 : decide (m > 9) = b4 at hh
  cases b1
  · cases b2
    · cases b3
      · cases b4
        · cases hh
        · clear hh
          go_enter Tryd.func3, Tryd.ntmps3
          go_wp2_with (first | (go_at_call 4; refine HA.out.mono ?_; rintro e w1 ⟨rfl, hb1⟩; have B1 := Aside0.mk hb1; clear hb1))
          go_ret
          exact ⟨rfl, B1.out⟩
      · clear hh
        go_enter Tryd.func3, Tryd.ntmps3
        go_wp2_with (first | (go_at_call 4; refine HA.out.mono ?_; rintro e w1 ⟨rfl, hb1⟩; have B1 := Aside0.mk hb1; clear hb1))
        go_ret
        exact ⟨rfl, B1.out⟩
    · clear hh
      go_enter Tryd.func3, Tryd.ntmps3
      go_wp2_with (first | (go_at_call 4; refine HA.out.mono ?_; rintro e w1 ⟨rfl, hb1⟩; have B1 := Aside0.mk hb1; clear hb1))
      go_ret
      exact ⟨rfl, B1.out⟩
  · clear hh
    go_enter Tryd.func3, Tryd.ntmps3
    go_wp2_with (first | (go_at_call 4; refine HA.out.mono ?_; rintro e w1 ⟨rfl, hb1⟩; have B1 := Aside0.mk hb1; clear hb1))
    go_ret
    exact ⟨rfl, B1.out⟩
set_option maxHeartbeats 600000 in
set_option maxRecDepth 100000 in
theorem law_nan (v : Nat) (d : Int) (m : Nat) (g1 : decide (d < -22) = false) (g2 : decide (d > 22) = false) (g3 : decide ((m : Int) < 0) = false) (g4 : decide ((m : Int) > 9) = false)  (hR : Yields2 v d m v true) (n1 : (FloatKind.f64.format.order v v != some .eq) = true) (w : World) (hG : Glob w) : LawAt v d m w := by
  unfold LawAt
  have HA := Aside0.mk (awake_calls w hG)
  have HR := Aside0.mk (fun W' (hb : Below w.heap.size w W') => hR W' (hG.below hb hG.block))
  have e5 := ext5
  have e6 := ext6
  have o1 : (FloatKind.f64.format.order 4608083138725491507 4608083138725491507 == some .eq) = true := by decide
  clear hG hR
  go_enter Tryd.func3, Tryd.ntmps3
  go_wp2_with (first | (go_at_call 4; first | (refine HA.out.mono ?_; rintro e w1 ⟨rfl, hb1⟩; have HR1 := Aside0.mk (HR.out w1 hb1); have B1 := Aside0.mk hb1; clear hb1 HA HR) | (refine HR1.out.mono ?_; rintro e w2 ⟨rfl, hb2⟩; have B2 := Aside0.mk (B1.out.trans (hb2.mono B1.out.size)); clear hb2 HR1)))
  go_ret
  exact ⟨rfl, B2.out⟩
set_option maxHeartbeats 600000 in
set_option maxRecDepth 100000 in
theorem law_inf (v : Nat) (d : Int) (m : Nat) (g1 : decide (d < -22) = false) (g2 : decide (d > 22) = false) (g3 : decide ((m : Int) < 0) = false) (g4 : decide ((m : Int) > 9) = false)  (hR : Yields2 v d m v true) (n1 : (FloatKind.f64.format.order v v != some .eq) = false) (hi : Gives 7 #[.float .f64 v, .int .i64 0] (.bool true)) (w : World) (hG : Glob w) : LawAt v d m w := by
  unfold LawAt
  have HA := Aside0.mk (awake_calls w hG)
  have HR := Aside0.mk (fun W' (hb : Below w.heap.size w W') => hR W' (hG.below hb hG.block))
  unfold Gives at hi
  have HI := Aside0.mk hi
  clear hi
  have e5 := ext5
  have e6 := ext6
  have o1 : (FloatKind.f64.format.order 4608083138725491507 4608083138725491507 == some .eq) = true := by decide
  clear hG hR
  go_enter Tryd.func3, Tryd.ntmps3
  go_wp2_with (first | (go_at_call 4; first | (refine HA.out.mono ?_; rintro e w1 ⟨rfl, hb1⟩; have HR1 := Aside0.mk (HR.out w1 hb1); have B1 := Aside0.mk hb1; clear hb1 HA HR) | (refine HR1.out.mono ?_; rintro e w2 ⟨rfl, hb2⟩; have B2 := Aside0.mk (B1.out.trans (hb2.mono B1.out.size)); clear hb2 HR1)) | (go_at_call 7; (first | with_reducible refine (HI.out _).mono ?_); rintro e w3 ⟨rfl, hw3⟩; subst w3))
  go_ret
  exact ⟨rfl, B2.out⟩
set_option maxHeartbeats 600000 in
set_option maxRecDepth 100000 in
theorem law_over_p (v : Nat) (d : Int) (m : Nat) (g1 : decide (d < -22) = false) (g2 : decide (d > 22) = false) (g3 : decide ((m : Int) < 0) = false) (g4 : decide ((m : Int) > 9) = false) (tp tn x0 x y b0 b z fl : Nat) (ok : Bool) (hR : Yields2 v d m z ok) (n1 : (FloatKind.f64.format.order v v != some .eq) = false) (hi : Gives 7 #[.float .f64 v, .int .i64 0] (.bool false)) (ht : Gives 9 #[.int .i64 d] (.float .f64 tp)) (gd : decide (d < 0) = false) (hs1 : Ieee.double.mul v tp = some x) (hs : Gives 10 #[.float .f64 x, .int .i64 (m : Int)] (.float .f64 y)) (hj : Gives 7 #[.float .f64 x, .int .i64 0] (.bool true)) (w : World) (hG : Glob w) : LawAt v d m w := by
  unfold LawAt
  have HA := Aside0.mk (awake_calls w hG)
  have HR := Aside0.mk (fun W' (hb : Below w.heap.size w W') => hR W' (hG.below hb hG.block))
  unfold Gives at hi
  have HI := Aside0.mk hi
  clear hi
  unfold Gives at ht
  have HT := Aside0.mk ht
  clear ht
  have hs1r := fun (t : TypeId) (W' : World) => run_float_arith (P := Tryd.prog) W' .mul t .f64 _ _ _ hs1
  clear hs1
  unfold Gives at hs
  have HS := Aside0.mk hs
  clear hs
  unfold Gives at hj
  have HJ := Aside0.mk hj
  clear hj
  have e5 := ext5
  have e6 := ext6
  have o1 : (FloatKind.f64.format.order 4608083138725491507 4608083138725491507 == some .eq) = true := by decide
  clear hG hR
  go_enter Tryd.func3, Tryd.ntmps3
  go_wp2_with (first | (go_at_call 4; first | (refine HA.out.mono ?_; rintro e w1 ⟨rfl, hb1⟩; have HR1 := Aside0.mk (HR.out w1 hb1); have B1 := Aside0.mk hb1; clear hb1 HA HR) | (refine HR1.out.mono ?_; rintro e w2 ⟨rfl, hb2⟩; have B2 := Aside0.mk (B1.out.trans (hb2.mono B1.out.size)); clear hb2 HR1)) | (go_at_call 7; (first | with_reducible refine (HI.out _).mono ?_ | with_reducible refine (HJ.out _).mono ?_); rintro e w3 ⟨rfl, hw3⟩; subst w3) | (go_at_call 9; (first | with_reducible refine (HT.out _).mono ?_); rintro e w3 ⟨rfl, hw3⟩; subst w3) | (go_at_call 10; (first | with_reducible refine (HS.out _).mono ?_); rintro e w3 ⟨rfl, hw3⟩; subst w3))
  go_ret
  exact ⟨rfl, B2.out⟩
set_option maxHeartbeats 600000 in
set_option maxRecDepth 100000 in
theorem law_whole_p (v : Nat) (d : Int) (m : Nat) (g1 : decide (d < -22) = false) (g2 : decide (d > 22) = false) (g3 : decide ((m : Int) < 0) = false) (g4 : decide ((m : Int) > 9) = false) (tp tn x0 x y b0 b z fl : Nat) (ok : Bool) (hR : Yields2 v d m v true) (n1 : (FloatKind.f64.format.order v v != some .eq) = false) (hi : Gives 7 #[.float .f64 v, .int .i64 0] (.bool false)) (ht : Gives 9 #[.int .i64 d] (.float .f64 tp)) (gd : decide (d < 0) = false) (hs1 : Ieee.double.mul v tp = some x) (hs : Gives 10 #[.float .f64 x, .int .i64 (m : Int)] (.float .f64 y)) (hj : Gives 7 #[.float .f64 x, .int .i64 0] (.bool false)) (oy : (FloatKind.f64.format.order y x == some .eq) = true) (hf : Gives 11 #[.float .f64 x] (.float .f64 fl)) (of : (FloatKind.f64.format.order fl x == some .eq) = true) (w : World) (hG : Glob w) : LawAt v d m w := by
  unfold LawAt
  have HA := Aside0.mk (awake_calls w hG)
  have HR := Aside0.mk (fun W' (hb : Below w.heap.size w W') => hR W' (hG.below hb hG.block))
  unfold Gives at hi
  have HI := Aside0.mk hi
  clear hi
  unfold Gives at ht
  have HT := Aside0.mk ht
  clear ht
  have hs1r := fun (t : TypeId) (W' : World) => run_float_arith (P := Tryd.prog) W' .mul t .f64 _ _ _ hs1
  clear hs1
  unfold Gives at hs
  have HS := Aside0.mk hs
  clear hs
  unfold Gives at hj
  have HJ := Aside0.mk hj
  clear hj
  unfold Gives at hf
  have HF := Aside0.mk hf
  clear hf
  have e5 := ext5
  have e6 := ext6
  have o1 : (FloatKind.f64.format.order 4608083138725491507 4608083138725491507 == some .eq) = true := by decide
  clear hG hR
  go_enter Tryd.func3, Tryd.ntmps3
  go_wp2_with (first | (go_at_call 4; first | (refine HA.out.mono ?_; rintro e w1 ⟨rfl, hb1⟩; have HR1 := Aside0.mk (HR.out w1 hb1); have B1 := Aside0.mk hb1; clear hb1 HA HR) | (refine HR1.out.mono ?_; rintro e w2 ⟨rfl, hb2⟩; have B2 := Aside0.mk (B1.out.trans (hb2.mono B1.out.size)); clear hb2 HR1)) | (go_at_call 7; (first | with_reducible refine (HI.out _).mono ?_ | with_reducible refine (HJ.out _).mono ?_); rintro e w3 ⟨rfl, hw3⟩; subst w3) | (go_at_call 9; (first | with_reducible refine (HT.out _).mono ?_); rintro e w3 ⟨rfl, hw3⟩; subst w3) | (go_at_call 10; (first | with_reducible refine (HS.out _).mono ?_); rintro e w3 ⟨rfl, hw3⟩; subst w3) | (go_at_call 11; (first | with_reducible refine (HF.out _).mono ?_); rintro e w3 ⟨rfl, hw3⟩; subst w3))
  go_ret
  exact ⟨rfl, B2.out⟩
set_option maxHeartbeats 600000 in
set_option maxRecDepth 100000 in
theorem law_refused_p (v : Nat) (d : Int) (m : Nat) (g1 : decide (d < -22) = false) (g2 : decide (d > 22) = false) (g3 : decide ((m : Int) < 0) = false) (g4 : decide ((m : Int) > 9) = false) (tp tn x0 x y b0 b z fl : Nat) (ok : Bool) (hR : Yields2 v d m z false) (n1 : (FloatKind.f64.format.order v v != some .eq) = false) (hi : Gives 7 #[.float .f64 v, .int .i64 0] (.bool false)) (ht : Gives 9 #[.int .i64 d] (.float .f64 tp)) (gd : decide (d < 0) = false) (hs1 : Ieee.double.mul v tp = some x) (hs : Gives 10 #[.float .f64 x, .int .i64 (m : Int)] (.float .f64 y)) (hj : Gives 7 #[.float .f64 x, .int .i64 0] (.bool false)) (oy : (FloatKind.f64.format.order y x == some .eq) = false) (hb1 : Ieee.double.div y tp = some b) (hk : Gives 7 #[.float .f64 b, .int .i64 0] (.bool true)) (w : World) (hG : Glob w) : LawAt v d m w := by
  unfold LawAt
  have HA := Aside0.mk (awake_calls w hG)
  have HR := Aside0.mk (fun W' (hb : Below w.heap.size w W') => hR W' (hG.below hb hG.block))
  unfold Gives at hi
  have HI := Aside0.mk hi
  clear hi
  unfold Gives at ht
  have HT := Aside0.mk ht
  clear ht
  have hs1r := fun (t : TypeId) (W' : World) => run_float_arith (P := Tryd.prog) W' .mul t .f64 _ _ _ hs1
  clear hs1
  unfold Gives at hs
  have HS := Aside0.mk hs
  clear hs
  unfold Gives at hj
  have HJ := Aside0.mk hj
  clear hj
  have hb1r := fun (t : TypeId) (W' : World) => run_float_arith (P := Tryd.prog) W' .quo t .f64 _ _ _ hb1
  clear hb1
  unfold Gives at hk
  have HK := Aside0.mk hk
  clear hk
  have e5 := ext5
  have e6 := ext6
  have o1 : (FloatKind.f64.format.order 4608083138725491507 4608083138725491507 == some .eq) = true := by decide
  clear hG hR
  go_enter Tryd.func3, Tryd.ntmps3
  go_wp2_with (first | (go_at_call 4; first | (refine HA.out.mono ?_; rintro e w1 ⟨rfl, hb1⟩; have HR1 := Aside0.mk (HR.out w1 hb1); have B1 := Aside0.mk hb1; clear hb1 HA HR) | (refine HR1.out.mono ?_; rintro e w2 ⟨rfl, hb2⟩; have B2 := Aside0.mk (B1.out.trans (hb2.mono B1.out.size)); clear hb2 HR1)) | (go_at_call 7; (first | with_reducible refine (HI.out _).mono ?_ | with_reducible refine (HJ.out _).mono ?_ | with_reducible refine (HK.out _).mono ?_); rintro e w3 ⟨rfl, hw3⟩; subst w3) | (go_at_call 9; (first | with_reducible refine (HT.out _).mono ?_); rintro e w3 ⟨rfl, hw3⟩; subst w3) | (go_at_call 10; (first | with_reducible refine (HS.out _).mono ?_); rintro e w3 ⟨rfl, hw3⟩; subst w3))
  go_ret
  exact ⟨rfl, B2.out⟩
set_option maxHeartbeats 600000 in
set_option maxRecDepth 100000 in
theorem law_part_p (v : Nat) (d : Int) (m : Nat) (g1 : decide (d < -22) = false) (g2 : decide (d > 22) = false) (g3 : decide ((m : Int) < 0) = false) (g4 : decide ((m : Int) > 9) = false) (tp tn x0 x y b0 b z fl : Nat) (ok : Bool) (hR : Yields2 v d m z true) (n1 : (FloatKind.f64.format.order v v != some .eq) = false) (hi : Gives 7 #[.float .f64 v, .int .i64 0] (.bool false)) (ht : Gives 9 #[.int .i64 d] (.float .f64 tp)) (gd : decide (d < 0) = false) (hs1 : Ieee.double.mul v tp = some x) (hs : Gives 10 #[.float .f64 x, .int .i64 (m : Int)] (.float .f64 y)) (hj : Gives 7 #[.float .f64 x, .int .i64 0] (.bool false)) (oy : (FloatKind.f64.format.order y x == some .eq) = false) (hb1 : Ieee.double.div y tp = some b) (hk : Gives 7 #[.float .f64 b, .int .i64 0] (.bool false)) (ob : (FloatKind.f64.format.order z b == some .eq) = true) (w : World) (hG : Glob w) : LawAt v d m w := by
  unfold LawAt
  have HA := Aside0.mk (awake_calls w hG)
  have HR := Aside0.mk (fun W' (hb : Below w.heap.size w W') => hR W' (hG.below hb hG.block))
  unfold Gives at hi
  have HI := Aside0.mk hi
  clear hi
  unfold Gives at ht
  have HT := Aside0.mk ht
  clear ht
  have hs1r := fun (t : TypeId) (W' : World) => run_float_arith (P := Tryd.prog) W' .mul t .f64 _ _ _ hs1
  clear hs1
  unfold Gives at hs
  have HS := Aside0.mk hs
  clear hs
  unfold Gives at hj
  have HJ := Aside0.mk hj
  clear hj
  have hb1r := fun (t : TypeId) (W' : World) => run_float_arith (P := Tryd.prog) W' .quo t .f64 _ _ _ hb1
  clear hb1
  unfold Gives at hk
  have HK := Aside0.mk hk
  clear hk
  have e5 := ext5
  have e6 := ext6
  have o1 : (FloatKind.f64.format.order 4608083138725491507 4608083138725491507 == some .eq) = true := by decide
  clear hG hR
  go_enter Tryd.func3, Tryd.ntmps3
  go_wp2_with (first | (go_at_call 4; first | (refine HA.out.mono ?_; rintro e w1 ⟨rfl, hb1⟩; have HR1 := Aside0.mk (HR.out w1 hb1); have B1 := Aside0.mk hb1; clear hb1 HA HR) | (refine HR1.out.mono ?_; rintro e w2 ⟨rfl, hb2⟩; have B2 := Aside0.mk (B1.out.trans (hb2.mono B1.out.size)); clear hb2 HR1)) | (go_at_call 7; (first | with_reducible refine (HI.out _).mono ?_ | with_reducible refine (HJ.out _).mono ?_ | with_reducible refine (HK.out _).mono ?_); rintro e w3 ⟨rfl, hw3⟩; subst w3) | (go_at_call 9; (first | with_reducible refine (HT.out _).mono ?_); rintro e w3 ⟨rfl, hw3⟩; subst w3) | (go_at_call 10; (first | with_reducible refine (HS.out _).mono ?_); rintro e w3 ⟨rfl, hw3⟩; subst w3))
  go_ret
  exact ⟨rfl, B2.out⟩
set_option maxHeartbeats 600000 in
set_option maxRecDepth 100000 in
theorem law_over_n (v : Nat) (d : Int) (m : Nat) (g1 : decide (d < -22) = false) (g2 : decide (d > 22) = false) (g3 : decide ((m : Int) < 0) = false) (g4 : decide ((m : Int) > 9) = false) (tp tn x0 x y b0 b z fl : Nat) (ok : Bool) (hR : Yields2 v d m z ok) (n1 : (FloatKind.f64.format.order v v != some .eq) = false) (hi : Gives 7 #[.float .f64 v, .int .i64 0] (.bool false)) (ht : Gives 9 #[.int .i64 d] (.float .f64 tp)) (gd : decide (d < 0) = true) (ngd : IntKind.i64.wrap (-d) = -d) (ht2 : Gives 9 #[.int .i64 (-d)] (.float .f64 tn)) (hs1 : Ieee.double.mul v tp = some x0) (hs2 : Ieee.double.div v tn = some x) (hs : Gives 10 #[.float .f64 x, .int .i64 (m : Int)] (.float .f64 y)) (hj : Gives 7 #[.float .f64 x, .int .i64 0] (.bool true)) (w : World) (hG : Glob w) : LawAt v d m w := by
  unfold LawAt
  have HA := Aside0.mk (awake_calls w hG)
  have HR := Aside0.mk (fun W' (hb : Below w.heap.size w W') => hR W' (hG.below hb hG.block))
  unfold Gives at hi
  have HI := Aside0.mk hi
  clear hi
  unfold Gives at ht
  have HT := Aside0.mk ht
  clear ht
  unfold Gives at ht2
  have HT2 := Aside0.mk ht2
  clear ht2
  have hs1r := fun (t : TypeId) (W' : World) => run_float_arith (P := Tryd.prog) W' .mul t .f64 _ _ _ hs1
  clear hs1
  have hs2r := fun (t : TypeId) (W' : World) => run_float_arith (P := Tryd.prog) W' .quo t .f64 _ _ _ hs2
  clear hs2
  unfold Gives at hs
  have HS := Aside0.mk hs
  clear hs
  unfold Gives at hj
  have HJ := Aside0.mk hj
  clear hj
  have e5 := ext5
  have e6 := ext6
  have o1 : (FloatKind.f64.format.order 4608083138725491507 4608083138725491507 == some .eq) = true := by decide
  clear hG hR
  go_enter Tryd.func3, Tryd.ntmps3
  go_wp2_with (first | (go_at_call 4; first | (refine HA.out.mono ?_; rintro e w1 ⟨rfl, hb1⟩; have HR1 := Aside0.mk (HR.out w1 hb1); have B1 := Aside0.mk hb1; clear hb1 HA HR) | (refine HR1.out.mono ?_; rintro e w2 ⟨rfl, hb2⟩; have B2 := Aside0.mk (B1.out.trans (hb2.mono B1.out.size)); clear hb2 HR1)) | (go_at_call 7; (first | with_reducible refine (HI.out _).mono ?_ | with_reducible refine (HJ.out _).mono ?_); rintro e w3 ⟨rfl, hw3⟩; subst w3) | (go_at_call 9; (first | with_reducible refine (HT.out _).mono ?_ | with_reducible refine (HT2.out _).mono ?_); rintro e w3 ⟨rfl, hw3⟩; subst w3) | (go_at_call 10; (first | with_reducible refine (HS.out _).mono ?_); rintro e w3 ⟨rfl, hw3⟩; subst w3))
  go_ret
  exact ⟨rfl, B2.out⟩
set_option maxHeartbeats 600000 in
set_option maxRecDepth 100000 in
theorem law_whole_n (v : Nat) (d : Int) (m : Nat) (g1 : decide (d < -22) = false) (g2 : decide (d > 22) = false) (g3 : decide ((m : Int) < 0) = false) (g4 : decide ((m : Int) > 9) = false) (tp tn x0 x y b0 b z fl : Nat) (ok : Bool) (hR : Yields2 v d m v true) (n1 : (FloatKind.f64.format.order v v != some .eq) = false) (hi : Gives 7 #[.float .f64 v, .int .i64 0] (.bool false)) (ht : Gives 9 #[.int .i64 d] (.float .f64 tp)) (gd : decide (d < 0) = true) (ngd : IntKind.i64.wrap (-d) = -d) (ht2 : Gives 9 #[.int .i64 (-d)] (.float .f64 tn)) (hs1 : Ieee.double.mul v tp = some x0) (hs2 : Ieee.double.div v tn = some x) (hs : Gives 10 #[.float .f64 x, .int .i64 (m : Int)] (.float .f64 y)) (hj : Gives 7 #[.float .f64 x, .int .i64 0] (.bool false)) (oy : (FloatKind.f64.format.order y x == some .eq) = true) (hf : Gives 11 #[.float .f64 x] (.float .f64 fl)) (of : (FloatKind.f64.format.order fl x == some .eq) = true) (w : World) (hG : Glob w) : LawAt v d m w := by
  unfold LawAt
  have HA := Aside0.mk (awake_calls w hG)
  have HR := Aside0.mk (fun W' (hb : Below w.heap.size w W') => hR W' (hG.below hb hG.block))
  unfold Gives at hi
  have HI := Aside0.mk hi
  clear hi
  unfold Gives at ht
  have HT := Aside0.mk ht
  clear ht
  unfold Gives at ht2
  have HT2 := Aside0.mk ht2
  clear ht2
  have hs1r := fun (t : TypeId) (W' : World) => run_float_arith (P := Tryd.prog) W' .mul t .f64 _ _ _ hs1
  clear hs1
  have hs2r := fun (t : TypeId) (W' : World) => run_float_arith (P := Tryd.prog) W' .quo t .f64 _ _ _ hs2
  clear hs2
  unfold Gives at hs
  have HS := Aside0.mk hs
  clear hs
  unfold Gives at hj
  have HJ := Aside0.mk hj
  clear hj
  unfold Gives at hf
  have HF := Aside0.mk hf
  clear hf
  have e5 := ext5
  have e6 := ext6
  have o1 : (FloatKind.f64.format.order 4608083138725491507 4608083138725491507 == some .eq) = true := by decide
  clear hG hR
  go_enter Tryd.func3, Tryd.ntmps3
  go_wp2_with (first | (go_at_call 4; first | (refine HA.out.mono ?_; rintro e w1 ⟨rfl, hb1⟩; have HR1 := Aside0.mk (HR.out w1 hb1); have B1 := Aside0.mk hb1; clear hb1 HA HR) | (refine HR1.out.mono ?_; rintro e w2 ⟨rfl, hb2⟩; have B2 := Aside0.mk (B1.out.trans (hb2.mono B1.out.size)); clear hb2 HR1)) | (go_at_call 7; (first | with_reducible refine (HI.out _).mono ?_ | with_reducible refine (HJ.out _).mono ?_); rintro e w3 ⟨rfl, hw3⟩; subst w3) | (go_at_call 9; (first | with_reducible refine (HT.out _).mono ?_ | with_reducible refine (HT2.out _).mono ?_); rintro e w3 ⟨rfl, hw3⟩; subst w3) | (go_at_call 10; (first | with_reducible refine (HS.out _).mono ?_); rintro e w3 ⟨rfl, hw3⟩; subst w3) | (go_at_call 11; (first | with_reducible refine (HF.out _).mono ?_); rintro e w3 ⟨rfl, hw3⟩; subst w3))
  go_ret
  exact ⟨rfl, B2.out⟩
set_option maxHeartbeats 600000 in
set_option maxRecDepth 100000 in
theorem law_refused_n (v : Nat) (d : Int) (m : Nat) (g1 : decide (d < -22) = false) (g2 : decide (d > 22) = false) (g3 : decide ((m : Int) < 0) = false) (g4 : decide ((m : Int) > 9) = false) (tp tn x0 x y b0 b z fl : Nat) (ok : Bool) (hR : Yields2 v d m z false) (n1 : (FloatKind.f64.format.order v v != some .eq) = false) (hi : Gives 7 #[.float .f64 v, .int .i64 0] (.bool false)) (ht : Gives 9 #[.int .i64 d] (.float .f64 tp)) (gd : decide (d < 0) = true) (ngd : IntKind.i64.wrap (-d) = -d) (ht2 : Gives 9 #[.int .i64 (-d)] (.float .f64 tn)) (hs1 : Ieee.double.mul v tp = some x0) (hs2 : Ieee.double.div v tn = some x) (hs : Gives 10 #[.float .f64 x, .int .i64 (m : Int)] (.float .f64 y)) (hj : Gives 7 #[.float .f64 x, .int .i64 0] (.bool false)) (oy : (FloatKind.f64.format.order y x == some .eq) = false) (hb1 : Ieee.double.div y tp = some b0) (hb2 : Ieee.double.mul y tn = some b) (hk : Gives 7 #[.float .f64 b, .int .i64 0] (.bool true)) (w : World) (hG : Glob w) : LawAt v d m w := by
  unfold LawAt
  have HA := Aside0.mk (awake_calls w hG)
  have HR := Aside0.mk (fun W' (hb : Below w.heap.size w W') => hR W' (hG.below hb hG.block))
  unfold Gives at hi
  have HI := Aside0.mk hi
  clear hi
  unfold Gives at ht
  have HT := Aside0.mk ht
  clear ht
  unfold Gives at ht2
  have HT2 := Aside0.mk ht2
  clear ht2
  have hs1r := fun (t : TypeId) (W' : World) => run_float_arith (P := Tryd.prog) W' .mul t .f64 _ _ _ hs1
  clear hs1
  have hs2r := fun (t : TypeId) (W' : World) => run_float_arith (P := Tryd.prog) W' .quo t .f64 _ _ _ hs2
  clear hs2
  unfold Gives at hs
  have HS := Aside0.mk hs
  clear hs
  unfold Gives at hj
  have HJ := Aside0.mk hj
  clear hj
  have hb1r := fun (t : TypeId) (W' : World) => run_float_arith (P := Tryd.prog) W' .quo t .f64 _ _ _ hb1
  clear hb1
  have hb2r := fun (t : TypeId) (W' : World) => run_float_arith (P := Tryd.prog) W' .mul t .f64 _ _ _ hb2
  clear hb2
  unfold Gives at hk
  have HK := Aside0.mk hk
  clear hk
  have e5 := ext5
  have e6 := ext6
  have o1 : (FloatKind.f64.format.order 4608083138725491507 4608083138725491507 == some .eq) = true := by decide
  clear hG hR
  go_enter Tryd.func3, Tryd.ntmps3
  go_wp2_with (first | (go_at_call 4; first | (refine HA.out.mono ?_; rintro e w1 ⟨rfl, hb1⟩; have HR1 := Aside0.mk (HR.out w1 hb1); have B1 := Aside0.mk hb1; clear hb1 HA HR) | (refine HR1.out.mono ?_; rintro e w2 ⟨rfl, hb2⟩; have B2 := Aside0.mk (B1.out.trans (hb2.mono B1.out.size)); clear hb2 HR1)) | (go_at_call 7; (first | with_reducible refine (HI.out _).mono ?_ | with_reducible refine (HJ.out _).mono ?_ | with_reducible refine (HK.out _).mono ?_); rintro e w3 ⟨rfl, hw3⟩; subst w3) | (go_at_call 9; (first | with_reducible refine (HT.out _).mono ?_ | with_reducible refine (HT2.out _).mono ?_); rintro e w3 ⟨rfl, hw3⟩; subst w3) | (go_at_call 10; (first | with_reducible refine (HS.out _).mono ?_); rintro e w3 ⟨rfl, hw3⟩; subst w3))
  go_ret
  exact ⟨rfl, B2.out⟩
set_option maxHeartbeats 600000 in
set_option maxRecDepth 100000 in
theorem law_part_n (v : Nat) (d : Int) (m : Nat) (g1 : decide (d < -22) = false) (g2 : decide (d > 22) = false) (g3 : decide ((m : Int) < 0) = false) (g4 : decide ((m : Int) > 9) = false) (tp tn x0 x y b0 b z fl : Nat) (ok : Bool) (hR : Yields2 v d m z true) (n1 : (FloatKind.f64.format.order v v != some .eq) = false) (hi : Gives 7 #[.float .f64 v, .int .i64 0] (.bool false)) (ht : Gives 9 #[.int .i64 d] (.float .f64 tp)) (gd : decide (d < 0) = true) (ngd : IntKind.i64.wrap (-d) = -d) (ht2 : Gives 9 #[.int .i64 (-d)] (.float .f64 tn)) (hs1 : Ieee.double.mul v tp = some x0) (hs2 : Ieee.double.div v tn = some x) (hs : Gives 10 #[.float .f64 x, .int .i64 (m : Int)] (.float .f64 y)) (hj : Gives 7 #[.float .f64 x, .int .i64 0] (.bool false)) (oy : (FloatKind.f64.format.order y x == some .eq) = false) (hb1 : Ieee.double.div y tp = some b0) (hb2 : Ieee.double.mul y tn = some b) (hk : Gives 7 #[.float .f64 b, .int .i64 0] (.bool false)) (ob : (FloatKind.f64.format.order z b == some .eq) = true) (w : World) (hG : Glob w) : LawAt v d m w := by
  unfold LawAt
  have HA := Aside0.mk (awake_calls w hG)
  have HR := Aside0.mk (fun W' (hb : Below w.heap.size w W') => hR W' (hG.below hb hG.block))
  unfold Gives at hi
  have HI := Aside0.mk hi
  clear hi
  unfold Gives at ht
  have HT := Aside0.mk ht
  clear ht
  unfold Gives at ht2
  have HT2 := Aside0.mk ht2
  clear ht2
  have hs1r := fun (t : TypeId) (W' : World) => run_float_arith (P := Tryd.prog) W' .mul t .f64 _ _ _ hs1
  clear hs1
  have hs2r := fun (t : TypeId) (W' : World) => run_float_arith (P := Tryd.prog) W' .quo t .f64 _ _ _ hs2
  clear hs2
  unfold Gives at hs
  have HS := Aside0.mk hs
  clear hs
  unfold Gives at hj
  have HJ := Aside0.mk hj
  clear hj
  have hb1r := fun (t : TypeId) (W' : World) => run_float_arith (P := Tryd.prog) W' .quo t .f64 _ _ _ hb1
  clear hb1
  have hb2r := fun (t : TypeId) (W' : World) => run_float_arith (P := Tryd.prog) W' .mul t .f64 _ _ _ hb2
  clear hb2
  unfold Gives at hk
  have HK := Aside0.mk hk
  clear hk
  have e5 := ext5
  have e6 := ext6
  have o1 : (FloatKind.f64.format.order 4608083138725491507 4608083138725491507 == some .eq) = true := by decide
  clear hG hR
  go_enter Tryd.func3, Tryd.ntmps3
  go_wp2_with (first | (go_at_call 4; first | (refine HA.out.mono ?_; rintro e w1 ⟨rfl, hb1⟩; have HR1 := Aside0.mk (HR.out w1 hb1); have B1 := Aside0.mk hb1; clear hb1 HA HR) | (refine HR1.out.mono ?_; rintro e w2 ⟨rfl, hb2⟩; have B2 := Aside0.mk (B1.out.trans (hb2.mono B1.out.size)); clear hb2 HR1)) | (go_at_call 7; (first | with_reducible refine (HI.out _).mono ?_ | with_reducible refine (HJ.out _).mono ?_ | with_reducible refine (HK.out _).mono ?_); rintro e w3 ⟨rfl, hw3⟩; subst w3) | (go_at_call 9; (first | with_reducible refine (HT.out _).mono ?_ | with_reducible refine (HT2.out _).mono ?_); rintro e w3 ⟨rfl, hw3⟩; subst w3) | (go_at_call 10; (first | with_reducible refine (HS.out _).mono ?_); rintro e w3 ⟨rfl, hw3⟩; subst w3))
  go_ret
  exact ⟨rfl, B2.out⟩
end Go.Proofs.YtobdmcdbfpjpiaaDoor.Q
