/- spec.NotNumber, spec.Order at unsigned integers. -/
import Derived.Test.YtgccaabpckfhlaaGreatDoorSi
namespace Go.Proofs.YtgccaabpckfhlaaGreatDoor.Q
open Go.RowKit Go.Proofs.YtgccaabpckfhlaaGreatDoorW.PrintWords Go.Proofs.YtgccaabpckfhlaaGreatDoorW.PrintLast Go.Proofs.YtgccaabpckfhlaaGreatDoorW.PrintMore
set_option linter.unusedVariables false
set_option linter.unusedSimpArgs false
def spec_NotNumber.f (a0_0 : Int) (a0_1 : Int) (a0_2 : Bool) (a0_3 : Int) (a0_4 : Int) (a0_5 : Int) (a0_6 : ByteArray) (a0_7 : Bool) (l0_8 : List Int) (l0_9 : List Int) (a1_0 : Bool) (a1_1 : Int) (a1_2 : ByteArray) (l1_3 : List (S52)) : Option (Bool) := if a0_0 = 3 then none else some false
set_option maxHeartbeats 1000000 in
set_option maxRecDepth 100000 in
theorem spec_NotNumber.calls (a0_0 : Int) (a0_1 : Int) (a0_2 : Bool) (a0_3 : Int) (a0_4 : Int) (a0_5 : Int) (a0_6 : ByteArray) (a0_7 : Bool) (A0_8 : Option Addr) (c0_8 : Nat) (l0_8 : List Int) (A0_9 : Option Addr) (c0_9 : Nat) (l0_9 : List Int) (a1_0 : Bool) (a1_1 : Int) (a1_2 : ByteArray) (A1_3 : Option Addr) (c1_3 : Nat) (l1_3 : List (S52)) (r : Bool) (w : World) (hr0_8 : Kd.C (Kd.int .i64) w A0_8 l0_8.length l0_8) (hc0_8 : l0_8.length ≤ c0_8) (hr0_9 : Kd.C (Kd.int .i64) w A0_9 l0_9.length l0_9) (hc0_9 : l0_9.length ≤ c0_9) (hr1_3 : Kd.C k52 w A1_3 l1_3.length l1_3) (hc1_3 : l1_3.length ≤ c1_3) (h : spec_NotNumber.f a0_0 a0_1 a0_2 a0_3 a0_4 a0_5 a0_6 a0_7 l0_8 l0_9 a1_0 a1_1 a1_2 l1_3 = some r) :
    Calls Tryz.prog 19 #[.agg #[.int .i64 a0_0, .int .i64 a0_1, .bool a0_2, .int .i64 a0_3, .int .i64 a0_4, .int .i64 a0_5, .string a0_6, .bool a0_7, .slice A0_8 l0_8.length c0_8, .slice A0_9 l0_9.length c0_9], .agg #[.bool a1_0, .int .u64 a1_1, .string a1_2, .slice A1_3 l1_3.length c1_3]] w fun e w' => e = .returned (.bool r) ∧ Below w.heap.size w w' := by
  unfold spec_NotNumber.f at h
  by_cases c : a0_0 = 3
  · rw [if_pos c] at h; cases h
  rw [if_neg c] at h
  obtain rfl := Option.some.inj h
  have hd : (a0_0 != 3) = true := by simpa using c
  clear h hr0_8 hr0_9 hr1_3
  go_enter Tryz.func19, Tryz.ntmps19
  go_wp2
  (try simp only [Exit.inBlock, Exit.then])
  go_ret
  exact ⟨rfl, below_alloc (below_alloc (Below.refl _ _) _) _⟩
theorem c_lit5 {w : World} {g : Nat} (h : w.heap[g]? = some (.cells #[.int .i64 5, .int .i64 20, .int .i64 4, .int .i64 19, .int .i64 15] 3 (0, 0))) : Kd.C (Kd.int .i64) w (some ⟨g, 0, none⟩) 5 [5, 20, 4, 19, 15] := by
  refine Kd.C_of_reads (enc := Value.int .i64) (d := (0 : Int)) (h1 := fun _ => rfl) ⟨rfl, by decide, fun _ => ⟨_, rfl, fun j hj => ?_⟩⟩
  have e : (⟨g, 0, none⟩ : Addr).add j = ⟨g, j, none⟩ := by simp [Addr.add]; omega
  rw [e, blk_cell h j]
  match j, hj with
  | 0, _ => rfl
  | 1, _ => rfl
  | 2, _ => rfl
  | 3, _ => rfl
  | 4, _ => rfl
def spec_Order.f (a0_0 : Int) (a0_1 : Int) (a0_2 : Bool) (a0_3 : Int) (a0_4 : Int) (a0_5 : Int) (a0_6 : ByteArray) (a0_7 : Bool) (l0_8 : List Int) (l0_9 : List Int) (a1_0 : Bool) (a1_1 : Int) (a1_2 : ByteArray) (l1_3 : List (S52)) (a2_0 : Bool) (a2_1 : Int) (a2_2 : ByteArray) (l2_3 : List (S52)) : Option (Int) := if a0_0 = 2 ∧ a0_2 = false then some (if a1_1 < a2_1 then -1 else if a1_1 > a2_1 then 1 else 0) else none
set_option maxHeartbeats 1000000 in
set_option maxRecDepth 100000 in
theorem spec_Order.calls (a0_0 : Int) (a0_1 : Int) (a0_2 : Bool) (a0_3 : Int) (a0_4 : Int) (a0_5 : Int) (a0_6 : ByteArray) (a0_7 : Bool) (A0_8 : Option Addr) (c0_8 : Nat) (l0_8 : List Int) (A0_9 : Option Addr) (c0_9 : Nat) (l0_9 : List Int) (a1_0 : Bool) (a1_1 : Int) (a1_2 : ByteArray) (A1_3 : Option Addr) (c1_3 : Nat) (l1_3 : List (S52)) (a2_0 : Bool) (a2_1 : Int) (a2_2 : ByteArray) (A2_3 : Option Addr) (c2_3 : Nat) (l2_3 : List (S52)) (r : Int) (w : World) (hr0_8 : Kd.C (Kd.int .i64) w A0_8 l0_8.length l0_8) (hc0_8 : l0_8.length ≤ c0_8) (hr0_9 : Kd.C (Kd.int .i64) w A0_9 l0_9.length l0_9) (hc0_9 : l0_9.length ≤ c0_9) (hr1_3 : Kd.C k52 w A1_3 l1_3.length l1_3) (hc1_3 : l1_3.length ≤ c1_3) (hr2_3 : Kd.C k52 w A2_3 l2_3.length l2_3) (hc2_3 : l2_3.length ≤ c2_3) (h : spec_Order.f a0_0 a0_1 a0_2 a0_3 a0_4 a0_5 a0_6 a0_7 l0_8 l0_9 a1_0 a1_1 a1_2 l1_3 a2_0 a2_1 a2_2 l2_3 = some r) :
    Calls Tryz.prog 20 #[.agg #[.int .i64 a0_0, .int .i64 a0_1, .bool a0_2, .int .i64 a0_3, .int .i64 a0_4, .int .i64 a0_5, .string a0_6, .bool a0_7, .slice A0_8 l0_8.length c0_8, .slice A0_9 l0_9.length c0_9], .agg #[.bool a1_0, .int .u64 a1_1, .string a1_2, .slice A1_3 l1_3.length c1_3], .agg #[.bool a2_0, .int .u64 a2_1, .string a2_2, .slice A2_3 l2_3.length c2_3]] w fun e w' => e = .returned (.int .i64 r) ∧ Below w.heap.size w w' := by
  unfold spec_Order.f at h
  by_cases c : a0_0 = 2 ∧ a0_2 = false
  · rw [if_pos c] at h
    obtain rfl := Option.some.inj h
    obtain ⟨rfl, rfl⟩ := c
    clear h hr0_8 hr0_9 hr1_3 hr2_3
    have c3 : a1_1 < a2_1 ∨ a2_1 < a1_1 ∨ a1_1 = a2_1 := by omega
    rcases c3 with c1 | c1 | c1
    · rw [if_pos c1]
      have d1 : decide (a1_1 < a2_1) = true := decide_eq_true c1
      have d2 : decide (a2_1 < a1_1) = false := decide_eq_false (by omega)
      clear c1
      go_enter Tryz.func20, Tryz.ntmps20
      go_wp2
      go_quiet (fail)
      have k0 : ((((w.alloc (.cells #[.int .i64 2, .int .i64 a0_1, .bool false, .int .i64 a0_3, .int .i64 a0_4, .int .i64 a0_5, .string a0_6, .bool a0_7, .slice A0_8 l0_8.length c0_8, .slice A0_9 l0_9.length c0_9] 35)).alloc (.cells #[.bool a1_0, .int .u64 a1_1, .string a1_2, .slice A1_3 l1_3.length c1_3] 52)).alloc (.cells #[.bool a2_0, .int .u64 a2_1, .string a2_2, .slice A2_3 l2_3.length c2_3] 52)).drewN nq).heap[w.heap.size]? = some (.cells #[.int .i64 2, .int .i64 a0_1, .bool false, .int .i64 a0_3, .int .i64 a0_4, .int .i64 a0_5, .string a0_6, .bool a0_7, .slice A0_8 l0_8.length c0_8, .slice A0_9 l0_9.length c0_9] 35 (0, 0)) := blk_alloc (blk_alloc (blk_new w (.cells #[.int .i64 2, .int .i64 a0_1, .bool false, .int .i64 a0_3, .int .i64 a0_4, .int .i64 a0_5, .string a0_6, .bool a0_7, .slice A0_8 l0_8.length c0_8, .slice A0_9 l0_9.length c0_9] 35)) (.cells #[.bool a1_0, .int .u64 a1_1, .string a1_2, .slice A1_3 l1_3.length c1_3] 52)) (.cells #[.bool a2_0, .int .u64 a2_1, .string a2_2, .slice A2_3 l2_3.length c2_3] 52)
      have kb : Below w.heap.size w ((((w.alloc (.cells #[.int .i64 2, .int .i64 a0_1, .bool false, .int .i64 a0_3, .int .i64 a0_4, .int .i64 a0_5, .string a0_6, .bool a0_7, .slice A0_8 l0_8.length c0_8, .slice A0_9 l0_9.length c0_9] 35)).alloc (.cells #[.bool a1_0, .int .u64 a1_1, .string a1_2, .slice A1_3 l1_3.length c1_3] 52)).alloc (.cells #[.bool a2_0, .int .u64 a2_1, .string a2_2, .slice A2_3 l2_3.length c2_3] 52)).drewN nq) := pw_below_drewN (below_alloc (below_alloc (below_alloc (Below.refl _ _) _) _) _) nq
      generalize (((w.alloc (.cells #[.int .i64 2, .int .i64 a0_1, .bool false, .int .i64 a0_3, .int .i64 a0_4, .int .i64 a0_5, .string a0_6, .bool a0_7, .slice A0_8 l0_8.length c0_8, .slice A0_9 l0_9.length c0_9] 35)).alloc (.cells #[.bool a1_0, .int .u64 a1_1, .string a1_2, .slice A1_3 l1_3.length c1_3] 52)).alloc (.cells #[.bool a2_0, .int .u64 a2_1, .string a2_2, .slice A2_3 l2_3.length c2_3] 52)).drewN nq = W1 at k0 kb ⊢
      have e0 : W1.cell? ⟨w.heap.size, 0, none⟩ = some (.int .i64 2) := (blk_cell k0 0).trans rfl
      have e2 : W1.cell? ⟨w.heap.size, 2, none⟩ = some (.bool false) := (blk_cell k0 2).trans rfl
      have K0 := Aside0.mk k0
      have KB := Aside0.mk kb
      clear k0 kb
      go_wp2_with (first | (go_at_call 32; go_loud (refine (spec_in.calls 20 2 _ _ [5, 20, 4, 19, 15] false _ ?hr ?hc (by decide +kernel)).mono ?_; (case hr => exact c_lit5 (blk_new _ _)); (case hc => simp); rintro e w9 ⟨rfl, ⟨n9, rfl⟩⟩; have e0 : ((W1.alloc (.cells #[.int .i64 5, .int .i64 20, .int .i64 4, .int .i64 19, .int .i64 15] 3)).drewN n9).cell? ⟨w.heap.size, 0, none⟩ = some (.int .i64 2) := (blk_cell (blk_alloc K0.out _) 0).trans rfl; have e2 : ((W1.alloc (.cells #[.int .i64 5, .int .i64 20, .int .i64 4, .int .i64 19, .int .i64 15] 3)).drewN n9).cell? ⟨w.heap.size, 2, none⟩ = some (.bool false) := (blk_cell (blk_alloc K0.out _) 2).trans rfl)))
      (try simp only [Exit.inBlock, Exit.then])
      go_ret
      exact ⟨rfl, pw_below_drewN (KB.out.trans ((below_alloc (Below.refl _ _) _).mono KB.out.size)) _⟩
    · rw [if_neg (by omega), if_pos c1]
      have d1 : decide (a1_1 < a2_1) = false := decide_eq_false (by omega)
      have d2 : decide (a2_1 < a1_1) = true := decide_eq_true c1
      clear c1
      go_enter Tryz.func20, Tryz.ntmps20
      go_wp2
      go_quiet (fail)
      have k0 : ((((w.alloc (.cells #[.int .i64 2, .int .i64 a0_1, .bool false, .int .i64 a0_3, .int .i64 a0_4, .int .i64 a0_5, .string a0_6, .bool a0_7, .slice A0_8 l0_8.length c0_8, .slice A0_9 l0_9.length c0_9] 35)).alloc (.cells #[.bool a1_0, .int .u64 a1_1, .string a1_2, .slice A1_3 l1_3.length c1_3] 52)).alloc (.cells #[.bool a2_0, .int .u64 a2_1, .string a2_2, .slice A2_3 l2_3.length c2_3] 52)).drewN nq).heap[w.heap.size]? = some (.cells #[.int .i64 2, .int .i64 a0_1, .bool false, .int .i64 a0_3, .int .i64 a0_4, .int .i64 a0_5, .string a0_6, .bool a0_7, .slice A0_8 l0_8.length c0_8, .slice A0_9 l0_9.length c0_9] 35 (0, 0)) := blk_alloc (blk_alloc (blk_new w (.cells #[.int .i64 2, .int .i64 a0_1, .bool false, .int .i64 a0_3, .int .i64 a0_4, .int .i64 a0_5, .string a0_6, .bool a0_7, .slice A0_8 l0_8.length c0_8, .slice A0_9 l0_9.length c0_9] 35)) (.cells #[.bool a1_0, .int .u64 a1_1, .string a1_2, .slice A1_3 l1_3.length c1_3] 52)) (.cells #[.bool a2_0, .int .u64 a2_1, .string a2_2, .slice A2_3 l2_3.length c2_3] 52)
      have kb : Below w.heap.size w ((((w.alloc (.cells #[.int .i64 2, .int .i64 a0_1, .bool false, .int .i64 a0_3, .int .i64 a0_4, .int .i64 a0_5, .string a0_6, .bool a0_7, .slice A0_8 l0_8.length c0_8, .slice A0_9 l0_9.length c0_9] 35)).alloc (.cells #[.bool a1_0, .int .u64 a1_1, .string a1_2, .slice A1_3 l1_3.length c1_3] 52)).alloc (.cells #[.bool a2_0, .int .u64 a2_1, .string a2_2, .slice A2_3 l2_3.length c2_3] 52)).drewN nq) := pw_below_drewN (below_alloc (below_alloc (below_alloc (Below.refl _ _) _) _) _) nq
      generalize (((w.alloc (.cells #[.int .i64 2, .int .i64 a0_1, .bool false, .int .i64 a0_3, .int .i64 a0_4, .int .i64 a0_5, .string a0_6, .bool a0_7, .slice A0_8 l0_8.length c0_8, .slice A0_9 l0_9.length c0_9] 35)).alloc (.cells #[.bool a1_0, .int .u64 a1_1, .string a1_2, .slice A1_3 l1_3.length c1_3] 52)).alloc (.cells #[.bool a2_0, .int .u64 a2_1, .string a2_2, .slice A2_3 l2_3.length c2_3] 52)).drewN nq = W1 at k0 kb ⊢
      have e0 : W1.cell? ⟨w.heap.size, 0, none⟩ = some (.int .i64 2) := (blk_cell k0 0).trans rfl
      have e2 : W1.cell? ⟨w.heap.size, 2, none⟩ = some (.bool false) := (blk_cell k0 2).trans rfl
      have K0 := Aside0.mk k0
      have KB := Aside0.mk kb
      clear k0 kb
      go_wp2_with (first | (go_at_call 32; go_loud (refine (spec_in.calls 20 2 _ _ [5, 20, 4, 19, 15] false _ ?hr ?hc (by decide +kernel)).mono ?_; (case hr => exact c_lit5 (blk_new _ _)); (case hc => simp); rintro e w9 ⟨rfl, ⟨n9, rfl⟩⟩; have e0 : ((W1.alloc (.cells #[.int .i64 5, .int .i64 20, .int .i64 4, .int .i64 19, .int .i64 15] 3)).drewN n9).cell? ⟨w.heap.size, 0, none⟩ = some (.int .i64 2) := (blk_cell (blk_alloc K0.out _) 0).trans rfl; have e2 : ((W1.alloc (.cells #[.int .i64 5, .int .i64 20, .int .i64 4, .int .i64 19, .int .i64 15] 3)).drewN n9).cell? ⟨w.heap.size, 2, none⟩ = some (.bool false) := (blk_cell (blk_alloc K0.out _) 2).trans rfl)))
      (try simp only [Exit.inBlock, Exit.then])
      go_ret
      exact ⟨rfl, pw_below_drewN (KB.out.trans ((below_alloc (Below.refl _ _) _).mono KB.out.size)) _⟩
    · rw [if_neg (by omega), if_neg (by omega)]
      have d1 : decide (a1_1 < a2_1) = false := decide_eq_false (by omega)
      have d2 : decide (a2_1 < a1_1) = false := decide_eq_false (by omega)
      clear c1
      go_enter Tryz.func20, Tryz.ntmps20
      go_wp2
      go_quiet (fail)
      have k0 : ((((w.alloc (.cells #[.int .i64 2, .int .i64 a0_1, .bool false, .int .i64 a0_3, .int .i64 a0_4, .int .i64 a0_5, .string a0_6, .bool a0_7, .slice A0_8 l0_8.length c0_8, .slice A0_9 l0_9.length c0_9] 35)).alloc (.cells #[.bool a1_0, .int .u64 a1_1, .string a1_2, .slice A1_3 l1_3.length c1_3] 52)).alloc (.cells #[.bool a2_0, .int .u64 a2_1, .string a2_2, .slice A2_3 l2_3.length c2_3] 52)).drewN nq).heap[w.heap.size]? = some (.cells #[.int .i64 2, .int .i64 a0_1, .bool false, .int .i64 a0_3, .int .i64 a0_4, .int .i64 a0_5, .string a0_6, .bool a0_7, .slice A0_8 l0_8.length c0_8, .slice A0_9 l0_9.length c0_9] 35 (0, 0)) := blk_alloc (blk_alloc (blk_new w (.cells #[.int .i64 2, .int .i64 a0_1, .bool false, .int .i64 a0_3, .int .i64 a0_4, .int .i64 a0_5, .string a0_6, .bool a0_7, .slice A0_8 l0_8.length c0_8, .slice A0_9 l0_9.length c0_9] 35)) (.cells #[.bool a1_0, .int .u64 a1_1, .string a1_2, .slice A1_3 l1_3.length c1_3] 52)) (.cells #[.bool a2_0, .int .u64 a2_1, .string a2_2, .slice A2_3 l2_3.length c2_3] 52)
      have kb : Below w.heap.size w ((((w.alloc (.cells #[.int .i64 2, .int .i64 a0_1, .bool false, .int .i64 a0_3, .int .i64 a0_4, .int .i64 a0_5, .string a0_6, .bool a0_7, .slice A0_8 l0_8.length c0_8, .slice A0_9 l0_9.length c0_9] 35)).alloc (.cells #[.bool a1_0, .int .u64 a1_1, .string a1_2, .slice A1_3 l1_3.length c1_3] 52)).alloc (.cells #[.bool a2_0, .int .u64 a2_1, .string a2_2, .slice A2_3 l2_3.length c2_3] 52)).drewN nq) := pw_below_drewN (below_alloc (below_alloc (below_alloc (Below.refl _ _) _) _) _) nq
      generalize (((w.alloc (.cells #[.int .i64 2, .int .i64 a0_1, .bool false, .int .i64 a0_3, .int .i64 a0_4, .int .i64 a0_5, .string a0_6, .bool a0_7, .slice A0_8 l0_8.length c0_8, .slice A0_9 l0_9.length c0_9] 35)).alloc (.cells #[.bool a1_0, .int .u64 a1_1, .string a1_2, .slice A1_3 l1_3.length c1_3] 52)).alloc (.cells #[.bool a2_0, .int .u64 a2_1, .string a2_2, .slice A2_3 l2_3.length c2_3] 52)).drewN nq = W1 at k0 kb ⊢
      have e0 : W1.cell? ⟨w.heap.size, 0, none⟩ = some (.int .i64 2) := (blk_cell k0 0).trans rfl
      have e2 : W1.cell? ⟨w.heap.size, 2, none⟩ = some (.bool false) := (blk_cell k0 2).trans rfl
      have K0 := Aside0.mk k0
      have KB := Aside0.mk kb
      clear k0 kb
      go_wp2_with (first | (go_at_call 32; go_loud (refine (spec_in.calls 20 2 _ _ [5, 20, 4, 19, 15] false _ ?hr ?hc (by decide +kernel)).mono ?_; (case hr => exact c_lit5 (blk_new _ _)); (case hc => simp); rintro e w9 ⟨rfl, ⟨n9, rfl⟩⟩; have e0 : ((W1.alloc (.cells #[.int .i64 5, .int .i64 20, .int .i64 4, .int .i64 19, .int .i64 15] 3)).drewN n9).cell? ⟨w.heap.size, 0, none⟩ = some (.int .i64 2) := (blk_cell (blk_alloc K0.out _) 0).trans rfl; have e2 : ((W1.alloc (.cells #[.int .i64 5, .int .i64 20, .int .i64 4, .int .i64 19, .int .i64 15] 3)).drewN n9).cell? ⟨w.heap.size, 2, none⟩ = some (.bool false) := (blk_cell (blk_alloc K0.out _) 2).trans rfl)))
      (try simp only [Exit.inBlock, Exit.then])
      go_ret
      exact ⟨rfl, pw_below_drewN (KB.out.trans ((below_alloc (Below.refl _ _) _).mono KB.out.size)) _⟩
  · rw [if_neg c] at h; cases h
end Go.Proofs.YtgccaabpckfhlaaGreatDoor.Q
