/- The kernels that are made: closures over the comparing functions. -/
import Derived.Test.YtgccaabpckfhlaaGreatDoorZf
import Derived.StillTailTactics
import Derived.Deep.RegionHeld3
namespace Go.Proofs.YtgccaabpckfhlaaGreatDoor.Q
open Go.RowKit Go.Proofs.YtgccaabpckfhlaaGreatDoorW.PrintWords Go.Proofs.YtgccaabpckfhlaaGreatDoorW.PrintLast Go.Proofs.YtgccaabpckfhlaaGreatDoorW.PrintMore
set_option linter.unusedVariables false
set_option linter.unusedSimpArgs false
theorem mk_func : ∀ (fn : Fn) (first cap : Array Value) (w : World), (Instr.makeFunc fn first cap).run Tryz.prog w = .ok (.func fn first cap) w := fun _ _ _ _ => rfl
def fv (n : Nat) : Value := .func (.func n) #[] #[]
set_option maxHeartbeats 1000000 in
set_option maxRecDepth 100000 in
theorem mkAA_calls (a : Nat) (w : World) : Calls Tryz.prog 42 #[fv a] w fun e w' => e = .returned (.func (.func 64) #[] #[.pointer (some ⟨w.heap.size, 0, none⟩)]) ∧ w' = w.alloc (.cells #[fv a] 138) := by
  have hmf := mk_func
  go_enter Tryz.func42, Tryz.ntmps42
  go_wp2
  go_ret
  exact ⟨rfl, rfl⟩
set_option maxHeartbeats 1000000 in
set_option maxRecDepth 100000 in
theorem mkAS_calls (a : Nat) (w : World) : Calls Tryz.prog 43 #[fv a] w fun e w' => e = .returned (.func (.func 68) #[] #[.pointer (some ⟨w.heap.size, 0, none⟩)]) ∧ w' = w.alloc (.cells #[fv a] 140) := by
  have hmf := mk_func
  go_enter Tryz.func43, Tryz.ntmps43
  go_wp2
  go_ret
  exact ⟨rfl, rfl⟩
set_option maxHeartbeats 1000000 in
set_option maxRecDepth 100000 in
theorem mkSA_calls (a : Nat) (w : World) : Calls Tryz.prog 44 #[fv a] w fun e w' => e = .returned (.func (.func 70) #[] #[.pointer (some ⟨w.heap.size, 0, none⟩)]) ∧ w' = w.alloc (.cells #[fv a] 142) := by
  have hmf := mk_func
  go_enter Tryz.func44, Tryz.ntmps44
  go_wp2
  go_ret
  exact ⟨rfl, rfl⟩
set_option maxHeartbeats 1000000 in
set_option maxRecDepth 100000 in
theorem getCmp0_calls (w : World) : Calls Tryz.prog 26 #[.int .i8 0] w fun e w' => e = .returned (.pointer (some ⟨w.heap.size, 0, none⟩)) ∧ w' = w.alloc (.cells #[fv 45, fv 46, fv 47] 144) := by
  go_enter Tryz.func26, Tryz.ntmps26
  go_wp2
  go_ret
  exact ⟨rfl, rfl⟩
set_option maxHeartbeats 1000000 in
set_option maxRecDepth 100000 in
theorem getCmp1_calls (w : World) : Calls Tryz.prog 26 #[.int .i8 1] w fun e w' => e = .returned (.pointer (some ⟨w.heap.size, 0, none⟩)) ∧ w' = w.alloc (.cells #[fv 48, fv 49, fv 50] 144) := by
  go_enter Tryz.func26, Tryz.ntmps26
  go_wp2
  go_ret
  exact ⟨rfl, rfl⟩
set_option maxHeartbeats 1000000 in
set_option maxRecDepth 100000 in
theorem getCmp2_calls (w : World) : Calls Tryz.prog 26 #[.int .i8 2] w fun e w' => e = .returned (.pointer (some ⟨w.heap.size, 0, none⟩)) ∧ w' = w.alloc (.cells #[fv 51, fv 52, fv 53] 144) := by
  go_enter Tryz.func26, Tryz.ntmps26
  go_wp2
  go_ret
  exact ⟨rfl, rfl⟩
set_option maxHeartbeats 1000000 in
set_option maxRecDepth 100000 in
theorem getCmp3_calls (w : World) : Calls Tryz.prog 26 #[.int .i8 3] w fun e w' => e = .returned (.pointer (some ⟨w.heap.size, 0, none⟩)) ∧ w' = w.alloc (.cells #[fv 54, fv 55, fv 56] 144) := by
  go_enter Tryz.func26, Tryz.ntmps26
  go_wp2
  go_ret
  exact ⟨rfl, rfl⟩
theorem getCmp_calls (k : Nat) (hk : k < 4) (w : World) : Calls Tryz.prog 26 #[.int .i8 (k : Int)] w fun e w' => e = .returned (.pointer (some ⟨w.heap.size, 0, none⟩)) ∧ w' = w.alloc (.cells #[fv (45 + 3 * k), fv (46 + 3 * k), fv (47 + 3 * k)] 144) := by
  match k, hk with
  | 0, _ => exact getCmp0_calls w
  | 1, _ => exact getCmp1_calls w
  | 2, _ => exact getCmp2_calls w
  | 3, _ => exact getCmp3_calls w
theorem rel_of {w w' : World} {v : Value} {ty : TypeId} (h : w' = w.alloc (.cells #[v] ty)) : Below w.heap.size w w' ∧ w'.heap[w.heap.size]? = some (.cells #[v] ty (0, 0)) := by
  subst h
  exact ⟨below_alloc (Below.refl _ w) _, blk_new w _⟩
theorem cell_below {w w' : World} {P j : Nat} {v : Value} (h : w.cell? ⟨P, j, none⟩ = some v) (hb : Below w.heap.size w w') : w'.cell? ⟨P, j, none⟩ = some v := (hb.cell (World.block_lt_of_cell? w _ h)).trans h
set_option maxHeartbeats 1000000 in
set_option maxRecDepth 100000 in
theorem gen_calls (P a b c : Nat) (w : World) (h : w.heap[P]? = some (.cells #[fv a, fv b, fv c] 144 (0, 0))) :
    Calls Tryz.prog 25 #[.pointer (some ⟨P, 0, none⟩)] w fun e w' => ∃ q p1 p2 p3, e = .returned (.pointer (some ⟨q, 0, none⟩)) ∧ w'.heap[q]? = some (.cells #[.func (.func 64) #[] #[.pointer (some ⟨p1, 0, none⟩)], .func (.func 70) #[] #[.pointer (some ⟨p3, 0, none⟩)], .func (.func 68) #[] #[.pointer (some ⟨p2, 0, none⟩)]] 135 (0, 0)) ∧ w'.heap[p1]? = some (.cells #[fv a] 138 (0, 0)) ∧ w'.heap[p2]? = some (.cells #[fv b] 140 (0, 0)) ∧ w'.heap[p3]? = some (.cells #[fv c] 142 (0, 0)) ∧ w.heap.size ≤ p1 ∧ w.heap.size ≤ p2 ∧ w.heap.size ≤ p3 ∧ Below w.heap.size w w' := by
  have hP := blk_lt h
  have h0 : w.cell? ⟨P, 0, none⟩ = some (fv a) := blk_cell h 0
  have h1 : w.cell? ⟨P, 1, none⟩ = some (fv b) := blk_cell h 1
  have h2 : w.cell? ⟨P, 2, none⟩ = some (fv c) := blk_cell h 2
  have HA := Aside0.mk (fun w => (mkAA_calls a w).mono fun e w' hh => (And.intro hh.1 (rel_of hh.2)))
  have HB := Aside0.mk (fun w => (mkAS_calls b w).mono fun e w' hh => (And.intro hh.1 (rel_of hh.2)))
  have HC := Aside0.mk (fun w => (mkSA_calls c w).mono fun e w' hh => (And.intro hh.1 (rel_of hh.2)))
  have oa : (fv a).oneCell' = true := rfl
  have ob : (fv b).oneCell' = true := rfl
  have oc : (fv c).oneCell' = true := rfl
  clear h
  generalize fv a = va at *
  generalize fv b = vb at *
  generalize fv c = vc at *
  go_enter Tryz.func25, Tryz.ntmps25
  go_upto_region 1 with (fail)
  go_region_held3 (fun w' => w'.cell? ⟨P, 0, none⟩ = some va ∧ w'.cell? ⟨P, 1, none⟩ = some vb ∧ w'.cell? ⟨P, 2, none⟩ = some vc) (go_keep) (first | (go_at_call 42; go_loud (refine (HA.out w.drew).mono ?_; rintro e w1 ⟨rfl, b1, n1⟩; have c10 := cell_below (show w.drew.cell? _ = _ from h0) b1; have c11 := cell_below (show w.drew.cell? _ = _ from h1) b1; have c12 := cell_below (show w.drew.cell? _ = _ from h2) b1; have B1 := Aside0.mk b1; have N1 := Aside0.mk n1; clear b1 n1)) | (go_at_call 43; go_loud (refine (HB.out w1).mono ?_; rintro e w2 ⟨rfl, b2, n2⟩; have c20 := cell_below c10 b2; have c21 := cell_below c11 b2; have c22 := cell_below c12 b2; have B2 := Aside0.mk b2; have N2 := Aside0.mk n2; clear b2 n2)) | (go_at_call 44; go_loud (refine (HC.out w2).mono ?_; rintro e w3 ⟨rfl, b3, n3⟩; have c30 := cell_below c20 b3; have c31 := cell_below c21 b3; have c32 := cell_below c22 b3; have B3 := Aside0.mk b3; have N3 := Aside0.mk n3; clear b3 n3)))
  go_wp2
  go_ret
  have b1 : Below w.heap.size w w1 := (below_drew (Below.refl _ w)).trans B1.out
  have z1 := b1.size
  have z2 := B2.out.size
  have z3 := B3.out.size
  have n1 : w1.heap[w.heap.size]? = some (.cells #[va] 138 (0, 0)) := N1.out
  have a1 := blk_alloc (blk_below (blk_below n1 B2.out) B3.out) (.cells #[.func (.func 64) #[] #[.pointer (some ⟨w.heap.size, 0, none⟩)], .func (.func 70) #[] #[.pointer (some ⟨w2.heap.size, 0, none⟩)], .func (.func 68) #[] #[.pointer (some ⟨w1.heap.size, 0, none⟩)]] 135)
  have a2 := blk_alloc (blk_below N2.out B3.out) (.cells #[.func (.func 64) #[] #[.pointer (some ⟨w.heap.size, 0, none⟩)], .func (.func 70) #[] #[.pointer (some ⟨w2.heap.size, 0, none⟩)], .func (.func 68) #[] #[.pointer (some ⟨w1.heap.size, 0, none⟩)]] 135)
  have a3 := blk_alloc N3.out (.cells #[.func (.func 64) #[] #[.pointer (some ⟨w.heap.size, 0, none⟩)], .func (.func 70) #[] #[.pointer (some ⟨w2.heap.size, 0, none⟩)], .func (.func 68) #[] #[.pointer (some ⟨w1.heap.size, 0, none⟩)]] 135)
  have hb3 : Below w.heap.size w w3 := (b1.trans (B2.out.mono z1)).trans (B3.out.mono (by omega))
  exact ⟨w3.heap.size, w.heap.size, w1.heap.size, w2.heap.size, rfl, blk_new w3 _, a1, a2, a3, Nat.le_refl _, z1, by omega, hb3.trans ((below_alloc (Below.refl _ w3) _).mono hb3.size)⟩
set_option maxHeartbeats 1000000 in
set_option maxRecDepth 100000 in
theorem kernelOf0_calls (q : Nat) (v : Value) (hv : v.oneCell' = true) (w : World) (h : w.cell? ⟨q, 0, none⟩ = some v) : Calls Tryz.prog 24 #[.int .i64 0, .pointer (some ⟨q, 0, none⟩)] w fun e w' => e = .returned v ∧ w' = w := by
  go_enter Tryz.func24, Tryz.ntmps24
  go_wp2
  go_ret
  exact ⟨rfl, rfl⟩
set_option maxHeartbeats 1000000 in
set_option maxRecDepth 100000 in
theorem kernelOf1_calls (q : Nat) (v : Value) (hv : v.oneCell' = true) (w : World) (h : w.cell? ⟨q, 2, none⟩ = some v) : Calls Tryz.prog 24 #[.int .i64 1, .pointer (some ⟨q, 0, none⟩)] w fun e w' => e = .returned v ∧ w' = w := by
  go_enter Tryz.func24, Tryz.ntmps24
  go_wp2
  go_ret
  exact ⟨rfl, rfl⟩
set_option maxHeartbeats 1000000 in
set_option maxRecDepth 100000 in
theorem kernelOf2_calls (q : Nat) (v : Value) (hv : v.oneCell' = true) (w : World) (h : w.cell? ⟨q, 1, none⟩ = some v) : Calls Tryz.prog 24 #[.int .i64 2, .pointer (some ⟨q, 0, none⟩)] w fun e w' => e = .returned v ∧ w' = w := by
  go_enter Tryz.func24, Tryz.ntmps24
  go_wp2
  go_ret
  exact ⟨rfl, rfl⟩
end Go.Proofs.YtgccaabpckfhlaaGreatDoor.Q
