/- The encoder by a dictionary: how many bytes there may be. -/
import Derived.Test.YtiieljnllgeoeaaGreatGh
namespace Go.Proofs.YtiieljnllgeoeaaGreat.Q
open Go.RowKit Go.Proofs.YtiieljnllgeoeaaGreatW.PrintWords Go.Proofs.YtiieljnllgeoeaaGreatW.PrintLast Go.Proofs.YtiieljnllgeoeaaGreatW.PrintMore
attribute [local go_sem] max2_int max_two
set_option linter.unusedVariables false
set_option linter.unusedSimpArgs false
set_option maxHeartbeats 1000000 in
set_option maxRecDepth 100000 in
theorem bfbl_calls (n : Nat) (h : n ≤ 100000) (w : World) : Calls Tryz.prog 75 #[.int .i64 (n : Int)] w fun e w' => e = .returned (.int .i64 (((n + 7) / 8 : Nat) : Int)) ∧ w' = w := by
 have h1 : IntKind.i64.wrap ((n : Int) + 7) = (n : Int) + 7 := by rw [IntKind.wrap_i64]; omega
 have h2 : ((n : Int) + 7) / 8 = (((n + 7) / 8 : Nat) : Int) := by omega
 have H2 := Aside0.mk h2
 clear h2
 go_enter Tryz.func75, Tryz.ntmps75
 go_wp2
 go_ret
 refine ⟨?_, rfl⟩
 show Ending.returned (Value.int .i64 (((n : Int) + 7) / 8)) = _
 rw [H2.out]
set_option maxHeartbeats 2000000 in
set_option maxRecDepth 100000 in
theorem minrle_calls (wd : Nat) (hw : wd ≤ 10) (w : World) : Calls Tryz.prog 59 #[.int .i64 (wd : Int)] w fun e w' => e = .returned (.int .i64 ((max (1 + (512 * wd + 7) / 8) (5 + (wd + 7) / 8) : Nat) : Int)) ∧ w' = w := by
 have H1 := Aside0.mk (fun W => bfbl_calls (512 * wd) (by omega) W)
 have H2 := Aside0.mk (fun W => bfbl_calls wd (by omega) W)
 rw [show ((512 * wd : Nat) : Int) = 512 * (wd : Int) by omega] at H1
 have b1 : (512 * wd + 7) / 8 ≤ 1000 := by omega
 have b2 : (wd + 7) / 8 ≤ 1000 := by omega
 generalize (512 * wd + 7) / 8 = m1 at H1 b1 ⊢
 generalize (wd + 7) / 8 = m2 at H2 b2 ⊢
 go_enter Tryz.func59, Tryz.ntmps59
 go_wp2_with (first | (go_at_call 75; (first | with_reducible refine (H1.out _).mono ?_ | with_reducible refine (H2.out _).mono ?_); rintro e w1 ⟨rfl, hw1⟩; subst w1))
 all_goals go_ret
 all_goals exact ⟨congrArg (fun z => Ending.returned (Value.int .i64 z)) (by omega), rfl⟩
set_option maxHeartbeats 2000000 in
set_option maxRecDepth 100000 in
theorem maxrle_calls (wd n : Nat) (hw : wd ≤ 10) (hn : n ≤ 1000) (w : World) : Calls Tryz.prog 57 #[.int .i64 (wd : Int), .int .i64 (n : Int)] w fun e w' => e = .returned (.int .i64 ((max ((n + 7) / 8 + (n + 7) / 8 * wd) ((n + 7) / 8 * (1 + (wd + 7) / 8)) : Nat) : Int)) ∧ w' = w := by
 have H1 := Aside0.mk (fun W => bfbl_calls n (by omega) W)
 have H2 := Aside0.mk (fun W => bfbl_calls wd (by omega) W)
 have b1 : (n + 7) / 8 ≤ 130 := by omega
 have b2 : (wd + 7) / 8 ≤ 3 := by omega
 generalize (n + 7) / 8 = m1 at H1 b1 ⊢
 generalize (wd + 7) / 8 = m2 at H2 b2 ⊢
 have b3 : m1 * wd ≤ 130 * 10 := Nat.mul_le_mul b1 hw
 have b4 : m1 * (1 + m2) ≤ 130 * 4 := Nat.mul_le_mul b1 (by omega)
 have e1 : IntKind.i64.wrap ((m1 : Int) * (wd : Int)) = ((m1 * wd : Nat) : Int) := by rw [← Int.natCast_mul]; exact i64n _ (by omega)
 have e2 : IntKind.i64.wrap ((m1 : Int) + ((m1 * wd : Nat) : Int)) = ((m1 + m1 * wd : Nat) : Int) := by rw [← Int.natCast_add]; exact i64n _ (by omega)
 have e3 : IntKind.i64.wrap (1 + (m2 : Int)) = ((1 + m2 : Nat) : Int) := by rw [IntKind.wrap_i64]; omega
 have e4 : IntKind.i64.wrap ((m1 : Int) * ((1 + m2 : Nat) : Int)) = ((m1 * (1 + m2) : Nat) : Int) := by rw [← Int.natCast_mul]; exact i64n _ (by omega)
 generalize hp1 : m1 * wd = p1 at e1 e2 ⊢
 generalize hp2 : m1 + p1 = p2 at e2 ⊢
 generalize hp3 : 1 + m2 = p3 at e3 e4 ⊢
 generalize hp4 : m1 * p3 = p4 at e4 ⊢
 clear hp1 hp2 hp3 hp4 b3 b4
 go_enter Tryz.func57, Tryz.ntmps57
 go_wp2_with (first | (go_at_call 75; (first | with_reducible refine (H1.out _).mono ?_ | with_reducible refine (H2.out _).mono ?_); rintro e w1 ⟨rfl, hw1⟩; subst w1))
 all_goals go_ret
 all_goals exact ⟨congrArg (fun z => Ending.returned (Value.int .i64 z)) (by omega), rfl⟩
/-- How many bytes are asked for. -/
def est (wd n : Nat) : Nat := 1 + (max ((n + 7) / 8 + (n + 7) / 8 * wd) ((n + 7) / 8 * (1 + (wd + 7) / 8)) + max (1 + (512 * wd + 7) / 8) (5 + (wd + 7) / 8))
theorem est_b (wd n : Nat) (hw : wd ≤ 10) (hn : n ≤ 1000) : (1 + wd) * (n + 9) ≤ 8 * (est wd n - 1) ∧ est wd n ≤ 100000 ∧ 1 < est wd n := by
 unfold est
 have b1 : (n + 7) / 8 ≤ 130 := by omega
 have b2 : (wd + 7) / 8 ≤ 3 := by omega
 have b5 : n ≤ 8 * ((n + 7) / 8) := by omega
 have b6 : 64 * wd ≤ (512 * wd + 7) / 8 := by omega
 have b7 : (512 * wd + 7) / 8 ≤ 1000 := by omega
 generalize (n + 7) / 8 = m1 at b1 b5 ⊢
 generalize (wd + 7) / 8 = m2 at b2 ⊢
 generalize (512 * wd + 7) / 8 = m3 at b6 b7 ⊢
 have b3 : m1 * wd ≤ 130 * 10 := Nat.mul_le_mul b1 hw
 have b4 : m1 * (1 + m2) ≤ 130 * 4 := Nat.mul_le_mul b1 (by omega)
 have h1 : (1 + wd) * (n + 9) ≤ (1 + wd) * (8 * m1 + 9) := Nat.mul_le_mul_left _ (by omega)
 have h2 : (1 + wd) * (8 * m1 + 9) = 8 * (m1 + m1 * wd) + (9 + 9 * wd) := by
  rw [Nat.add_mul, Nat.one_mul, Nat.mul_add, Nat.mul_add, Nat.mul_comm wd (8 * m1), Nat.mul_assoc]
  omega
 omega
set_option maxHeartbeats 4000000 in
set_option maxRecDepth 100000 in
theorem est_calls {w : World} {lo E T H M : Nat} {es : List Ent} {n S : Nat} {ds : Int} {a : Option Addr} {k c : Nat} {raw : Int} (h : Dc w lo E T H M es n S ds (.slice a k c) raw) (h0 : 0 < n) (hn : n ≤ 1000) (hk : k ≤ 1000) :
  Calls Tryz.prog 38 #[.pointer (some ⟨E, 0, none⟩)] w fun e w' => e = .returned (.int .i64 ((est (wdof n) k : Nat) : Int)) ∧ ∃ m, w' = w.drewN m := by
 have r4 : w.cell? ⟨E, 4, none⟩ = some (.slice a k c) := (blk_cell h.e 4).trans rfl
 have HB := Aside0.mk (fun d => bwid_calls (h.drewN d) h0 hn)
 have hw := (wdof_b n h0 hn).2.1
 have HM := Aside0.mk (fun W => maxrle_calls (wdof n) k hw hk W)
 have HN := Aside0.mk (fun W => minrle_calls (wdof n) hw W)
 have he := est_b (wdof n) k hw hk
 unfold est at he ⊢
 generalize max ((k + 7) / 8 + (k + 7) / 8 * wdof n) ((k + 7) / 8 * (1 + (wdof n + 7) / 8)) = x1 at HM he ⊢
 generalize max (1 + (512 * wdof n + 7) / 8) (5 + (wdof n + 7) / 8) = x2 at HN he ⊢
 have e1 : IntKind.i64.wrap ((x1 : Int) + (x2 : Int)) = ((x1 + x2 : Nat) : Int) := by rw [← Int.natCast_add]; exact i64n _ (by omega)
 have e2 : IntKind.i64.wrap (1 + ((x1 + x2 : Nat) : Int)) = ((1 + (x1 + x2) : Nat) : Int) := by
  have := i64n (1 + (x1 + x2)) (by omega)
  rw [Int.natCast_add] at this
  exact this
 generalize hx3 : x1 + x2 = x3 at e1 e2 ⊢
 generalize hx4 : 1 + x3 = x4 at e2 ⊢
 clear hx3 hx4 h he
 go_enter Tryz.func38, Tryz.ntmps38
 go_upto_region 1 with (fail)
 go_quiet (first | (go_at_call 58; exact Calls.quiet_of (HB.out _)) | (go_at_call 57; exact Calls.quiet_of_same (HM.out _)) | (go_at_call 59; exact Calls.quiet_of_same (HN.out _)))
 go_wp2
 go_ret
 exact ⟨rfl, _, rfl⟩
end Go.Proofs.YtiieljnllgeoeaaGreat.Q
