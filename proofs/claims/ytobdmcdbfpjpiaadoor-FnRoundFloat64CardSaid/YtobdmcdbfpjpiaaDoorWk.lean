/- impl.RoundFloat64. -/
import Derived.Test.YtobdmcdbfpjpiaaDoorWj
namespace Go.Proofs.YtobdmcdbfpjpiaaDoor.Q
open Go.RowKit Go.Proofs.YtobdmcdbfpjpiaaDoorW.PrintWords Go.Proofs.YtobdmcdbfpjpiaaDoorW.PrintLast Go.Proofs.YtobdmcdbfpjpiaaDoorW.PrintMore
set_option linter.unusedVariables false
set_option linter.unusedSimpArgs false
theorem none_idle (p q : Addr) (w : World) :
    CallsD Tryd.prog 12 #[.pointer (some p), .pointer (some q)] .returning w fun e u' w' => e = .returned (.tuple #[]) ∧ u' = .returning ∧ w' = w := by
  refine callsD_of_wpS Tryd.func12 rfl fun c₀ cs hu => ?_
  apply wpS_seq
  apply wpS_region
  simp [wpOpsS, go_sem, recoverD, hu, Tryd.ntmps12, Exit.thenS]
  refine wpS_cond (t := false) (by simp [Act.eval, Array.replicate]) ?_
  simp only [Bool.false_eq_true, if_false]
  refine wpS_of_wp (wp_skip ?_)
  cases c₀
  simp_all [bodyPostS, results, Tryd.results12]
theorem drewBelow {B : Nat} {w w' : World} (h : Below B w w') : Below B w w'.drew := pw_below_drewN h 1
/-- What a call of impl.RoundFloat64 yields. -/
def outF (v : Nat) (d : Int) (m : Nat) : Value := .tuple #[.int .u64 ((resF v d m).1 : Int), .bool (resF v d m).2]
set_option maxHeartbeats 4000000 in
set_option maxRecDepth 100000 in
theorem impl_walk (sv : Bool) (rv : Nat) (hv : rv < 9223372036854775808) (d : Int) (hd : d.natAbs < 23) (m : Nat) (hm : m < 10) (w : World) (hG : Glob w) :
    Calls Tryd.prog 4 #[.int .u64 ((W sv rv : Nat) : Int), .int .i64 d, .int .i64 (m : Int)] w fun e w' => e = .returned (outF (W sv rv) d m) ∧ Below w.heap.size w w' := by
  obtain ⟨W1, hW1⟩ : ∃ W1, W1 = (w.alloc (.cells #[.int .u64 0] 22)).alloc (.cells #[.bool false] 4) := ⟨_, rfl⟩
  have b1 : Below w.heap.size w W1 := by rw [hW1]; exact below_alloc (below_alloc (Below.refl _ _) _) _
  have k1 : W1.heap[w.heap.size]? = some (.cells #[.int .u64 0] 22 (0, 0)) := by rw [hW1]; exact blk_alloc (blk_new w _) _
  have k2 : W1.heap[w.heap.size + 1]? = some (.cells #[.bool false] 4 (0, 0)) := by
    have h := blk_new (w.alloc (.cells #[.int .u64 0] 22)) (.cells #[.bool false] 4)
    rw [hW1]
    simpa using h
  have hs : w.heap.size + 1 < W1.heap.size := World.block_lt_of_cell? W1 ⟨w.heap.size + 1, 0, none⟩ ((blk_cell k2 0).trans rfl)
  have HK := Aside0.mk (kernel_calls sv rv hv d hd m hm W1 (hG.below b1 hG.block))
  have e5 := ext5
  have e6 := ext6
  have hcv : IntKind.i8.wrap (m : Int) = (m : Int) := by simp [IntKind.wrap, IntKind.bits, IntKind.signed]; omega
  have HB := Aside0.mk (And.intro b1 (And.intro k1 (And.intro k2 hs)))
  unfold outF
  generalize resF (W sv rv) d m = res at *
  generalize W sv rv = v at *
  clear hG hv b1 k1 k2 hs hd hm
  go_enter_defers Tryd.func4, Tryd.ntmps4
  go_upto_region 2 with (fail)
  rw [← hW1]
  clear hW1
  go_wp2_with (first | (go_at_call 13; refine HK.out.mono ?_; rintro e w2 ⟨ev, rfl, h2, h3, h4⟩; have FX := Aside0.mk (And.intro h2 (And.intro h3 h4)); clear h2 h3 h4))
  obtain ⟨x, b⟩ := res
  have k1 : w2.heap[w.heap.size]? = some (.cells #[.int .u64 0] 22 (0, 0)) := blk_below HB.out.2.1 FX.out.2.2
  have k2 : w2.heap[w.heap.size + 1]? = some (.cells #[.bool false] 4 (0, 0)) := blk_below HB.out.2.2.1 FX.out.2.2
  have hz1 := blk_frozen k1 0
  have hq1 : w2.cell? ⟨w.heap.size, 0, none⟩ = some (.int .u64 0) := (blk_cell k1 0).trans rfl
  have hz2 := blk_frozen k2 0
  have hq2 : w2.cell? ⟨w.heap.size + 1, 0, none⟩ = some (.bool false) := (blk_cell k2 0).trans rfl
  have B2 := Aside0.mk (HB.out.1.trans (FX.out.2.2.mono HB.out.1.size))
  have K12 := Aside0.mk (And.intro k1 k2)
  clear k1 k2
  cases b
  · obtain ⟨a, rfl⟩ := FX.out.2.1 rfl
    clear FX HK HB
    go_region
    go_wp2
    have e1 := blk_set K12.out.1 0 (.int .u64 (x : Int))
    have e2 : (w2.setCell ⟨w.heap.size, 0, none⟩ (.int .u64 (x : Int))).heap[w.heap.size + 1]? = some (.cells #[.bool false] 4 (0, 0)) := blk_far K12.out.2 (p := ⟨w.heap.size, 0, none⟩) (by show ¬ (w.heap.size + 1 = w.heap.size); omega) _
    have e3 := blk_set e2 0 (.bool false)
    have hB : Below w.heap.size w ((w2.setCell ⟨w.heap.size, 0, none⟩ (.int .u64 (x : Int))).setCell ⟨w.heap.size + 1, 0, none⟩ (.bool false)).drew := drewBelow (Below.setCell (p := ⟨w.heap.size + 1, 0, none⟩) (Below.setCell (p := ⟨w.heap.size, 0, none⟩) B2.out (Nat.le_refl _) _) (Nat.le_succ _) _)
    have c1 : (((w2.setCell ⟨w.heap.size, 0, none⟩ (.int .u64 (x : Int))).setCell ⟨w.heap.size + 1, 0, none⟩ (.bool false)).drew).cell? ⟨w.heap.size, 0, none⟩ = some (.int .u64 (x : Int)) := (blk_cell (blk_far e1 (p := ⟨w.heap.size + 1, 0, none⟩) (by show ¬ (w.heap.size = w.heap.size + 1); omega) (.bool false)) 0).trans rfl
    have c2 : (((w2.setCell ⟨w.heap.size, 0, none⟩ (.int .u64 (x : Int))).setCell ⟨w.heap.size + 1, 0, none⟩ (.bool false)).drew).cell? ⟨w.heap.size + 1, 0, none⟩ = some (.bool false) := (blk_cell e3 0).trans rfl
    generalize ((w2.setCell ⟨w.heap.size, 0, none⟩ (.int .u64 (x : Int))).setCell ⟨w.heap.size + 1, 0, none⟩ (.bool false)).drew = w7 at hB c1 c2 ⊢
    refine leaves_cons (f := 12) (args := #[.pointer (some ⟨w.heap.size, 0, none⟩), .pointer (some ⟨w.heap.size + 1, 0, none⟩)]) (by simp) (by simp [go_sem]) ?_
    refine (none_idle _ _ _).mono ?_
    rintro e u' w'' ⟨rfl, rfl, rfl⟩
    refine ⟨.tuple #[.int .u64 (x : Int), .bool false], ?_, rfl, hB⟩
    simp [results, Tryd.results4, go_sem, c1, c2]
  · obtain rfl := FX.out.1 rfl
    clear FX HK HB
    go_region
    go_wp2
    have e1 := blk_set K12.out.1 0 (.int .u64 (x : Int))
    have e2 : (w2.setCell ⟨w.heap.size, 0, none⟩ (.int .u64 (x : Int))).heap[w.heap.size + 1]? = some (.cells #[.bool false] 4 (0, 0)) := blk_far K12.out.2 (p := ⟨w.heap.size, 0, none⟩) (by show ¬ (w.heap.size + 1 = w.heap.size); omega) _
    have e3 := blk_set e2 0 (.bool true)
    have hB : Below w.heap.size w ((w2.setCell ⟨w.heap.size, 0, none⟩ (.int .u64 (x : Int))).setCell ⟨w.heap.size + 1, 0, none⟩ (.bool true)).drew := drewBelow (Below.setCell (p := ⟨w.heap.size + 1, 0, none⟩) (Below.setCell (p := ⟨w.heap.size, 0, none⟩) B2.out (Nat.le_refl _) _) (Nat.le_succ _) _)
    have c1 : (((w2.setCell ⟨w.heap.size, 0, none⟩ (.int .u64 (x : Int))).setCell ⟨w.heap.size + 1, 0, none⟩ (.bool true)).drew).cell? ⟨w.heap.size, 0, none⟩ = some (.int .u64 (x : Int)) := (blk_cell (blk_far e1 (p := ⟨w.heap.size + 1, 0, none⟩) (by show ¬ (w.heap.size = w.heap.size + 1); omega) (.bool true)) 0).trans rfl
    have c2 : (((w2.setCell ⟨w.heap.size, 0, none⟩ (.int .u64 (x : Int))).setCell ⟨w.heap.size + 1, 0, none⟩ (.bool true)).drew).cell? ⟨w.heap.size + 1, 0, none⟩ = some (.bool true) := (blk_cell e3 0).trans rfl
    generalize ((w2.setCell ⟨w.heap.size, 0, none⟩ (.int .u64 (x : Int))).setCell ⟨w.heap.size + 1, 0, none⟩ (.bool true)).drew = w7 at hB c1 c2 ⊢
    refine leaves_cons (f := 12) (args := #[.pointer (some ⟨w.heap.size, 0, none⟩), .pointer (some ⟨w.heap.size + 1, 0, none⟩)]) (by simp) (by simp [go_sem]) ?_
    refine (none_idle _ _ _).mono ?_
    rintro e u' w'' ⟨rfl, rfl, rfl⟩
    refine ⟨.tuple #[.int .u64 (x : Int), .bool true], ?_, rfl, hB⟩
    simp [results, Tryd.results4, go_sem, c1, c2]
end Go.Proofs.YtobdmcdbfpjpiaaDoor.Q
