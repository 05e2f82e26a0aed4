/- laws.greater, laws.smaller: one of the two, as it is. -/
import Derived.Test.YtgomeiepiajpeaaGreatQS32e
namespace Go.Proofs.YtgomeiepiajpeaaGreat.Q
open Go.RowKit Go.Proofs.YtgomeiepiajpeaaGreatW.PrintWords Go.Proofs.YtgomeiepiajpeaaGreatW.PrintLast Go.Proofs.YtgomeiepiajpeaaGreatW.PrintMore
set_option linter.unusedVariables false
set_option linter.unusedSimpArgs false
def wv (s : Bool) (A : Option Addr) (n c : Nat) : Value := .agg #[.bool s, .slice A n c]
set_option maxHeartbeats 1000000 in
set_option maxRecDepth 100000 in
theorem gr_calls (k : Nat) (s0 : Bool) (A0 : Option Addr) (c0 : Nat) (L0 : List Int) (s1 : Bool) (A1 : Option Addr) (c1 : Nat) (L1 : List Int) (c : Int) (w : World) (hr0 : Kd.C (Kd.int .u32) w A0 L0.length L0) (hc0 : L0.length ≤ c0) (hr1 : Kd.C (Kd.int .u32) w A1 L1.length L1) (hc1 : L1.length ≤ c1) (h : spec_WideCmp.f k s0 L0 s1 L1 = some c) :
    Calls Tryz.prog 8 #[.agg #[.bool s0, .slice A0 L0.length c0], .agg #[.bool s1, .slice A1 L1.length c1]] w fun e w' => e = .returned (if c ≥ 0 then wv s0 A0 L0.length c0 else wv s1 A1 L1.length c1) ∧ Below w.heap.size w w' := by
  obtain ⟨W, hW⟩ : ∃ W, W = ((w.alloc (.cells #[.bool s0, .slice A0 L0.length c0] 27)).alloc (.cells #[.bool s1, .slice A1 L1.length c1] 27)).alloc (.cells #[.bool false, .slice none 0 0] 27) := ⟨_, rfl⟩
  have hb : Below w.heap.size w W := by rw [hW]; exact below_alloc (below_alloc (below_alloc (Below.refl _ _) _) _) _
  have hC := spec_WideCmp.calls k s0 A0 c0 L0 s1 A1 c1 L1 c W (Kd.C_below hr0 hb) hc0 (Kd.C_below hr1 hb) hc1 h
  have b2 : W.heap[w.heap.size]? = some (.cells #[.bool s0, .slice A0 L0.length c0] 27 (0, 0)) := by rw [hW]; exact blk_alloc (blk_alloc (blk_new w _) _) _
  have b3 : W.heap[w.heap.size + 1]? = some (.cells #[.bool s1, .slice A1 L1.length c1] 27 (0, 0)) := by
    rw [hW]
    have h := blk_new (w.alloc (.cells #[.bool s0, .slice A0 L0.length c0] 27)) (.cells #[.bool s1, .slice A1 L1.length c1] 27)
    refine blk_alloc ?_ _
    simpa using h
  have b4 : W.heap[w.heap.size + 1 + 1]? = some (.cells #[.bool false, .slice none 0 0] 27 (0, 0)) := by
    rw [hW]
    have h := blk_new ((w.alloc (.cells #[.bool s0, .slice A0 L0.length c0] 27)).alloc (.cells #[.bool s1, .slice A1 L1.length c1] 27)) (.cells #[.bool false, .slice none 0 0] 27)
    simpa using h
  rw [hW] at hC
  have HC := Aside0.mk hC
  have HB := Aside0.mk hb
  have B2 := Aside0.mk b2
  have B3 := Aside0.mk b3
  have B4 := Aside0.mk b4
  have HW := Aside0.mk hW
  clear hr0 hr1 h hC hb b2 b3 b4
  by_cases c0' : c ≥ 0
  · have cd : decide (c ≥ 0) = true := decide_eq_true c0'
    rw [if_pos c0']
    go_enter Tryz.func8, Tryz.ntmps8
    go_wp2_with (first | (go_at_call 18; refine HC.out.mono ?_; rintro e w1 ⟨rfl, hb1⟩; rw [← HW.out] at hb1; have y2 := blk_below B2.out hb1; have y3 := blk_below B3.out hb1; have y4 := blk_below B4.out hb1; have d0 : w1.cell? ⟨w.heap.size, 0, none⟩ = some (.bool s0) := (blk_cell y2 0).trans rfl; have d1 : w1.cell? ⟨w.heap.size, 1, none⟩ = some (.slice A0 L0.length c0) := (blk_cell y2 1).trans rfl; have e2 : w1.cell? ⟨w.heap.size + 1 + 1, 0, none⟩ = some (.bool false) := (blk_cell y4 0).trans rfl; have e3 : w1.cell? ⟨w.heap.size + 1 + 1, 1, none⟩ = some (.slice none 0 0) := (blk_cell y4 1).trans rfl; have e0 := blk_frozen y4 0; have e1 := blk_frozen y4 1; have Y4 := Aside0.mk y4; have HB1 := Aside0.mk (HB.out.trans (hb1.mono HB.out.size)); clear y2 y3 y4 hb1))
    have f := blk_set (blk_set Y4.out 0 (.bool s0)) 1 (.slice A0 L0.length c0)
    have gb := below_set (below_set (g := w.heap.size + 1 + 1) (j := 0) (v := .bool s0) HB1.out (by omega)) (g := w.heap.size + 1 + 1) (j := 1) (v := .slice A0 L0.length c0) (by omega)
    generalize ((w1.setCell ⟨w.heap.size + 1 + 1, 0, none⟩ (.bool s0)).setCell ⟨w.heap.size + 1 + 1, 1, none⟩ (.slice A0 L0.length c0)) = W2 at f gb ⊢
    have z0 : W2.cell? ⟨w.heap.size + 1 + 1, 0, none⟩ = some (.bool s0) := (blk_cell f 0).trans rfl
    have z1 : W2.cell? ⟨w.heap.size + 1 + 1, 1, none⟩ = some (.slice A0 L0.length c0) := (blk_cell f 1).trans rfl
    try simp only [Exit.inBlock, Exit.then]
    refine bodyPost_ret_by (v := wv s0 A0 L0.length c0) ?_ rfl ⟨rfl, gb⟩
    simp [results, Tryz.results8, go_sem, wv, z0, z1]
  · have cd : decide (c ≥ 0) = false := decide_eq_false c0'
    rw [if_neg c0']
    go_enter Tryz.func8, Tryz.ntmps8
    go_wp2_with (first | (go_at_call 18; refine HC.out.mono ?_; rintro e w1 ⟨rfl, hb1⟩; rw [← HW.out] at hb1; have y2 := blk_below B2.out hb1; have y3 := blk_below B3.out hb1; have y4 := blk_below B4.out hb1; have d0 : w1.cell? ⟨w.heap.size + 1, 0, none⟩ = some (.bool s1) := (blk_cell y3 0).trans rfl; have d1 : w1.cell? ⟨w.heap.size + 1, 1, none⟩ = some (.slice A1 L1.length c1) := (blk_cell y3 1).trans rfl; have e2 : w1.cell? ⟨w.heap.size + 1 + 1, 0, none⟩ = some (.bool false) := (blk_cell y4 0).trans rfl; have e3 : w1.cell? ⟨w.heap.size + 1 + 1, 1, none⟩ = some (.slice none 0 0) := (blk_cell y4 1).trans rfl; have e0 := blk_frozen y4 0; have e1 := blk_frozen y4 1; have Y4 := Aside0.mk y4; have HB1 := Aside0.mk (HB.out.trans (hb1.mono HB.out.size)); clear y2 y3 y4 hb1))
    have f := blk_set (blk_set Y4.out 0 (.bool s1)) 1 (.slice A1 L1.length c1)
    have gb := below_set (below_set (g := w.heap.size + 1 + 1) (j := 0) (v := .bool s1) HB1.out (by omega)) (g := w.heap.size + 1 + 1) (j := 1) (v := .slice A1 L1.length c1) (by omega)
    generalize ((w1.setCell ⟨w.heap.size + 1 + 1, 0, none⟩ (.bool s1)).setCell ⟨w.heap.size + 1 + 1, 1, none⟩ (.slice A1 L1.length c1)) = W2 at f gb ⊢
    have z0 : W2.cell? ⟨w.heap.size + 1 + 1, 0, none⟩ = some (.bool s1) := (blk_cell f 0).trans rfl
    have z1 : W2.cell? ⟨w.heap.size + 1 + 1, 1, none⟩ = some (.slice A1 L1.length c1) := (blk_cell f 1).trans rfl
    try simp only [Exit.inBlock, Exit.then]
    refine bodyPost_ret_by (v := wv s1 A1 L1.length c1) ?_ rfl ⟨rfl, gb⟩
    simp [results, Tryz.results8, go_sem, wv, z0, z1]
set_option maxHeartbeats 1000000 in
set_option maxRecDepth 100000 in
theorem sm_calls (k : Nat) (s0 : Bool) (A0 : Option Addr) (c0 : Nat) (L0 : List Int) (s1 : Bool) (A1 : Option Addr) (c1 : Nat) (L1 : List Int) (c : Int) (w : World) (hr0 : Kd.C (Kd.int .u32) w A0 L0.length L0) (hc0 : L0.length ≤ c0) (hr1 : Kd.C (Kd.int .u32) w A1 L1.length L1) (hc1 : L1.length ≤ c1) (h : spec_WideCmp.f k s0 L0 s1 L1 = some c) :
    Calls Tryz.prog 9 #[.agg #[.bool s0, .slice A0 L0.length c0], .agg #[.bool s1, .slice A1 L1.length c1]] w fun e w' => e = .returned (if c ≤ 0 then wv s0 A0 L0.length c0 else wv s1 A1 L1.length c1) ∧ Below w.heap.size w w' := by
  obtain ⟨W, hW⟩ : ∃ W, W = ((w.alloc (.cells #[.bool s0, .slice A0 L0.length c0] 27)).alloc (.cells #[.bool s1, .slice A1 L1.length c1] 27)).alloc (.cells #[.bool false, .slice none 0 0] 27) := ⟨_, rfl⟩
  have hb : Below w.heap.size w W := by rw [hW]; exact below_alloc (below_alloc (below_alloc (Below.refl _ _) _) _) _
  have hC := spec_WideCmp.calls k s0 A0 c0 L0 s1 A1 c1 L1 c W (Kd.C_below hr0 hb) hc0 (Kd.C_below hr1 hb) hc1 h
  have b2 : W.heap[w.heap.size]? = some (.cells #[.bool s0, .slice A0 L0.length c0] 27 (0, 0)) := by rw [hW]; exact blk_alloc (blk_alloc (blk_new w _) _) _
  have b3 : W.heap[w.heap.size + 1]? = some (.cells #[.bool s1, .slice A1 L1.length c1] 27 (0, 0)) := by
    rw [hW]
    have h := blk_new (w.alloc (.cells #[.bool s0, .slice A0 L0.length c0] 27)) (.cells #[.bool s1, .slice A1 L1.length c1] 27)
    refine blk_alloc ?_ _
    simpa using h
  have b4 : W.heap[w.heap.size + 1 + 1]? = some (.cells #[.bool false, .slice none 0 0] 27 (0, 0)) := by
    rw [hW]
    have h := blk_new ((w.alloc (.cells #[.bool s0, .slice A0 L0.length c0] 27)).alloc (.cells #[.bool s1, .slice A1 L1.length c1] 27)) (.cells #[.bool false, .slice none 0 0] 27)
    simpa using h
  rw [hW] at hC
  have HC := Aside0.mk hC
  have HB := Aside0.mk hb
  have B2 := Aside0.mk b2
  have B3 := Aside0.mk b3
  have B4 := Aside0.mk b4
  have HW := Aside0.mk hW
  clear hr0 hr1 h hC hb b2 b3 b4
  by_cases c0' : c ≤ 0
  · have cd : decide (c ≤ 0) = true := decide_eq_true c0'
    rw [if_pos c0']
    go_enter Tryz.func9, Tryz.ntmps9
    go_wp2_with (first | (go_at_call 18; refine HC.out.mono ?_; rintro e w1 ⟨rfl, hb1⟩; rw [← HW.out] at hb1; have y2 := blk_below B2.out hb1; have y3 := blk_below B3.out hb1; have y4 := blk_below B4.out hb1; have d0 : w1.cell? ⟨w.heap.size, 0, none⟩ = some (.bool s0) := (blk_cell y2 0).trans rfl; have d1 : w1.cell? ⟨w.heap.size, 1, none⟩ = some (.slice A0 L0.length c0) := (blk_cell y2 1).trans rfl; have e2 : w1.cell? ⟨w.heap.size + 1 + 1, 0, none⟩ = some (.bool false) := (blk_cell y4 0).trans rfl; have e3 : w1.cell? ⟨w.heap.size + 1 + 1, 1, none⟩ = some (.slice none 0 0) := (blk_cell y4 1).trans rfl; have e0 := blk_frozen y4 0; have e1 := blk_frozen y4 1; have Y4 := Aside0.mk y4; have HB1 := Aside0.mk (HB.out.trans (hb1.mono HB.out.size)); clear y2 y3 y4 hb1))
    have f := blk_set (blk_set Y4.out 0 (.bool s0)) 1 (.slice A0 L0.length c0)
    have gb := below_set (below_set (g := w.heap.size + 1 + 1) (j := 0) (v := .bool s0) HB1.out (by omega)) (g := w.heap.size + 1 + 1) (j := 1) (v := .slice A0 L0.length c0) (by omega)
    generalize ((w1.setCell ⟨w.heap.size + 1 + 1, 0, none⟩ (.bool s0)).setCell ⟨w.heap.size + 1 + 1, 1, none⟩ (.slice A0 L0.length c0)) = W2 at f gb ⊢
    have z0 : W2.cell? ⟨w.heap.size + 1 + 1, 0, none⟩ = some (.bool s0) := (blk_cell f 0).trans rfl
    have z1 : W2.cell? ⟨w.heap.size + 1 + 1, 1, none⟩ = some (.slice A0 L0.length c0) := (blk_cell f 1).trans rfl
    try simp only [Exit.inBlock, Exit.then]
    refine bodyPost_ret_by (v := wv s0 A0 L0.length c0) ?_ rfl ⟨rfl, gb⟩
    simp [results, Tryz.results9, go_sem, wv, z0, z1]
  · have cd : decide (c ≤ 0) = false := decide_eq_false c0'
    rw [if_neg c0']
    go_enter Tryz.func9, Tryz.ntmps9
    go_wp2_with (first | (go_at_call 18; refine HC.out.mono ?_; rintro e w1 ⟨rfl, hb1⟩; rw [← HW.out] at hb1; have y2 := blk_below B2.out hb1; have y3 := blk_below B3.out hb1; have y4 := blk_below B4.out hb1; have d0 : w1.cell? ⟨w.heap.size + 1, 0, none⟩ = some (.bool s1) := (blk_cell y3 0).trans rfl; have d1 : w1.cell? ⟨w.heap.size + 1, 1, none⟩ = some (.slice A1 L1.length c1) := (blk_cell y3 1).trans rfl; have e2 : w1.cell? ⟨w.heap.size + 1 + 1, 0, none⟩ = some (.bool false) := (blk_cell y4 0).trans rfl; have e3 : w1.cell? ⟨w.heap.size + 1 + 1, 1, none⟩ = some (.slice none 0 0) := (blk_cell y4 1).trans rfl; have e0 := blk_frozen y4 0; have e1 := blk_frozen y4 1; have Y4 := Aside0.mk y4; have HB1 := Aside0.mk (HB.out.trans (hb1.mono HB.out.size)); clear y2 y3 y4 hb1))
    have f := blk_set (blk_set Y4.out 0 (.bool s1)) 1 (.slice A1 L1.length c1)
    have gb := below_set (below_set (g := w.heap.size + 1 + 1) (j := 0) (v := .bool s1) HB1.out (by omega)) (g := w.heap.size + 1 + 1) (j := 1) (v := .slice A1 L1.length c1) (by omega)
    generalize ((w1.setCell ⟨w.heap.size + 1 + 1, 0, none⟩ (.bool s1)).setCell ⟨w.heap.size + 1 + 1, 1, none⟩ (.slice A1 L1.length c1)) = W2 at f gb ⊢
    have z0 : W2.cell? ⟨w.heap.size + 1 + 1, 0, none⟩ = some (.bool s1) := (blk_cell f 0).trans rfl
    have z1 : W2.cell? ⟨w.heap.size + 1 + 1, 1, none⟩ = some (.slice A1 L1.length c1) := (blk_cell f 1).trans rfl
    try simp only [Exit.inBlock, Exit.then]
    refine bodyPost_ret_by (v := wv s1 A1 L1.length c1) ?_ rfl ⟨rfl, gb⟩
    simp [results, Tryz.results9, go_sem, wv, z0, z1]
end Go.Proofs.YtgomeiepiajpeaaGreat.Q
