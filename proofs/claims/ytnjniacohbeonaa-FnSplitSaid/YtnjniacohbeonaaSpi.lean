/- impl.Split, walked: of at most 4096 bytes. -/
import Derived.Test.YtnjniacohbeonaaSpe
import Derived.Recover
namespace Go.Proofs.Ytnjniacohbeonaa.Q
open Go.RowKit Go.Proofs.YtnjniacohbeonaaW.PrintWords Go.Proofs.YtnjniacohbeonaaW.PrintLast Go.Proofs.YtnjniacohbeonaaW.PrintMore
attribute [local go_sem] max2_int min2_int max_two min_two max_three min_three max_four min_four
set_option linter.unusedVariables false
set_option linter.unusedSimpArgs false

theorem noBytes_idle (pl pok : Addr) (w : World) :
    CallsD Try.prog 60 #[.pointer (some pl), .pointer (some pok)] .returning w fun e u' w' => e = .returned (.tuple #[]) ∧ u' = .returning ∧ w' = w := by
  refine callsD_of_wpS Try.func60 rfl fun c₀ cs hu => ?_
  apply wpS_seq
  apply wpS_region
  simp [wpOpsS, go_sem, recoverD, hu, Try.ntmps60, Exit.thenS]
  refine wpS_cond (t := false) (by simp [Act.eval, Array.replicate]) ?_
  simp only [Bool.false_eq_true, if_false]
  refine wpS_of_wp (wp_skip ?_)
  cases c₀
  simp_all [bodyPostS, results, Try.results60]

theorem split_blocks (w : World) (A B C : Obj) : (((w.alloc A).alloc B).alloc C).heap[w.heap.size]? = some A ∧ (((w.alloc A).alloc B).alloc C).heap[w.heap.size + 1]? = some B ∧ Below w.heap.size w (((w.alloc A).alloc B).alloc C) ∧ (((w.alloc A).alloc B).alloc C).heap.size = w.heap.size + 3 := by
  refine ⟨?_, ?_, below_alloc (below_alloc (below_alloc (Below.refl _ _) _) _) _, by simp⟩
  · exact blk_alloc (blk_alloc (blk_new w A) B) C
  · have h := blk_alloc (blk_new (w.alloc A) B) C
    simpa using h

/-- What the call answers: of at most 4096 bytes that the width divides. -/
def impl_Split.f (l0 : List Int) (a1 : Int) : Option (List Int × Bool) :=
  if l0.length ≤ 4096 then ((encoding_EncodeByteStreamSplit.f 200000 (List.replicate l0.length 0) l0 a1).bind fun t => some (t, true)) else none

set_option maxHeartbeats 8000000 in
set_option maxRecDepth 100000 in
theorem impl_Split.calls (A0 : Option Addr) (c0 : Nat) (l0 : List Int) (a1 : Int) (r1 : List Int) (r2 : Bool) (w : World) (hr0 : Kd.C (Kd.int .u8) w A0 l0.length l0) (hc0 : l0.length ≤ c0) (h : impl_Split.f l0 a1 = some (r1, r2)) :
    Calls Try.prog 33 #[.slice A0 l0.length c0, .int .i64 a1] w fun e w' => ∃ v0_ : Value, e = .returned (.tuple #[v0_, .bool r2]) ∧ Kd.R (Kd.int .u8) 5 w' w.heap.size (fun _ => True) v0_ r1 ∧ Below w.heap.size w w' := by
  unfold impl_Split.f at h
  by_cases hn : l0.length ≤ 4096
  · rw [if_pos hn] at h
    obtain ⟨t, ht, h⟩ := Option.bind_eq_some_iff.mp h
    simp only [Option.some.injEq, Prod.mk.injEq] at h
    obtain ⟨rfl, rfl⟩ := h
    have HE := Aside0.mk ht
    have HN := Aside0.mk hn
    have HR0 := Aside0.mk hr0
    have HC0 := Aside0.mk hc0
    clear hn hr0 hc0 ht
    obtain ⟨i0, hi, hz0, hz1, hz2⟩ := info_parts (show (Try.prog.info? 5).map (fun i => (i.zero, i.size, i.bytes)) = some (some (.int .u8 0), 1, 1) by kernel_rfl)
    have hmk : ∀ W : World, (Instr.makeSlice 46 (.int .i64 (l0.length : Int)) (.int .i64 (l0.length : Int))).run Try.prog W = .ok (.slice (some ⟨W.heap.size, 0, none⟩) l0.length l0.length) (W.alloc (.cells (madeCells #[.int .u8 0] l0.length) 5)) := by
      intro W
      have hn := HN.out
      have h := run_make (P := Try.prog) W 46 5 i0 (.int .u8 0) Try.underlying46 hi hz0 .i64 .i64 (l0.length : Int) (l0.length : Int) (by omega) (by omega) (by rw [hz2]; omega) (by omega)
      simpa [hz1, Value.cells] using h
    clear hi hz0 hz1 hz2
    go_enter_defers Try.func33, Try.ntmps33
    go_wp2_with fail
    clear hmk
    obtain ⟨f1, f2, f3, f4⟩ := split_blocks w (.cells #[.slice (some ⟨w.heap.size + 1 + 1, 0, none⟩) l0.length l0.length] 46) (.cells #[.bool false] 4) (.cells (madeCells #[.int .u8 0] l0.length) 5)
    have f5 : Kd.R (Kd.int .u8) 5 (((w.alloc (.cells #[.slice (some ⟨w.heap.size + 1 + 1, 0, none⟩) l0.length l0.length] 46)).alloc (.cells #[.bool false] 4)).alloc (.cells (madeCells #[.int .u8 0] l0.length) 5)) w.heap.size (fun k => k = w.heap.size + 2) (.slice (some ⟨w.heap.size + 1 + 1, 0, none⟩) l0.length l0.length) (List.replicate l0.length 0) := by
      have h := Kd.R_of_own (h1 := fun _ => rfl) (ok := fun k => k = w.heap.size + 2) (own_made_of' (enc := Value.int .u8) (d := (0 : Int)) ((w.alloc (.cells #[.slice (some ⟨w.heap.size + 1 + 1, 0, none⟩) l0.length l0.length] 46)).alloc (.cells #[.bool false] 4)) w.heap.size 5 l0.length (by simp; omega) (by have := HN.out; omega)) (fun k hk => by simp [Value.ownBlock] at hk; omega)
      simp at h
      exact h
    generalize (((w.alloc (.cells #[.slice (some ⟨w.heap.size + 1 + 1, 0, none⟩) l0.length l0.length] 46)).alloc (.cells #[.bool false] 4)).alloc (.cells (madeCells #[.int .u8 0] l0.length) 5)) = W6 at f1 f2 f3 f4 f5 ⊢
    have k0 : ∀ W_, Kept W6 W_ (fun k => k = w.heap.size + 2) → Kd.C (Kd.int .u8) W_ A0 l0.length l0 := Kd.C_kept_came (Kd.heap_int _) HR0.out f3 (fun k hk => by omega)
    have f5' : Kd.R (Kd.int .u8) 5 W6 w.heap.size (fun k => k = w.heap.size + 2) (.slice (some ⟨w.heap.size + 1 + 1, 0, none⟩) l0.length l0.length) (List.replicate l0.length 0) := f5
    have HCALL := Aside0.mk (encoding_EncodeByteStreamSplit.calls 200000 (fun k => k = w.heap.size + 2) (.slice (some ⟨w.heap.size + 1 + 1, 0, none⟩) l0.length l0.length) (List.replicate l0.length 0) A0 c0 l0 a1 t w W6 f3 f5' k0 HC0.out HE.out)
    have HF1 := Aside0.mk f1
    have HF2 := Aside0.mk f2
    have HF4 := Aside0.mk f4
    clear HE k0 f1 f2 f3 f4 f5 f5'
    refine HCALL.out.mono ?_
    rintro e w7 ⟨rfl, hR0, hB, hK⟩
    have hR : Kd.R (Kd.int .u8) 5 w7 w.heap.size (fun k => k = w.heap.size + 2 ∨ W6.heap.size ≤ k) (.slice (some ⟨w.heap.size + 1 + 1, 0, none⟩) l0.length l0.length) t := hR0
    have g1 := hK.2 w.heap.size (by have := HF4.out; omega) (by omega)
    rw [HF1.out] at g1
    have g2 := hK.2 (w.heap.size + 1) (by have := HF4.out; omega) (by omega)
    rw [HF2.out] at g2
    have c1_ : w7.cell? ⟨w.heap.size, 0, none⟩ = some (.slice (some ⟨w.heap.size + 1 + 1, 0, none⟩) l0.length l0.length) := (blk_cell g1 0).trans rfl
    have c2_ : w7.cell? ⟨w.heap.size + 1, 0, none⟩ = some (.bool false) := (blk_cell g2 0).trans rfl
    have z1_ : w7.frozen? ⟨w.heap.size, 0, none⟩ = false := blk_frozen g1 0
    have z2_ : w7.frozen? ⟨w.heap.size + 1, 0, none⟩ = false := blk_frozen g2 0
    have G1 := Aside0.mk g1
    have G2 := Aside0.mk g2
    have HRR := Aside0.mk (Kd.R_far (p := ⟨w.heap.size + 1, 0, none⟩) (Kd.R_far (p := ⟨w.heap.size, 0, none⟩) hR (fun k hk => by have := HF4.out; show k ≠ w.heap.size; omega) (.slice (some ⟨w.heap.size + 1 + 1, 0, none⟩) l0.length l0.length)) (fun k hk => by have := HF4.out; show k ≠ w.heap.size + 1; omega) (.bool true))
    have HBB := Aside0.mk (Below.setCell (p := ⟨w.heap.size + 1, 0, none⟩) (Below.setCell (p := ⟨w.heap.size, 0, none⟩) hB (Nat.le_refl _) (.slice (some ⟨w.heap.size + 1 + 1, 0, none⟩) l0.length l0.length)) (by show w.heap.size ≤ w.heap.size + 1; omega) (.bool true))
    clear g1 g2 hR hR0 hB hK HCALL HF1 HF2 HF4
    go_wp2_with fail
    refine leaves_cons (f := 60) (args := #[.pointer (some ⟨w.heap.size, 0, none⟩), .pointer (some ⟨w.heap.size + 1, 0, none⟩)]) (by simp) (by simp [go_sem]) ?_
    refine (noBytes_idle _ _ _).mono ?_
    rintro e u' w'' ⟨rfl, rfl, rfl⟩
    refine ⟨.tuple #[.slice (some ⟨w.heap.size + 1 + 1, 0, none⟩) l0.length l0.length, .bool true], ?_, _, rfl, Kd.R_mono HRR.out (fun _ _ => trivial), HBB.out⟩
    simp [results, Try.results33, go_sem, c1_, c2_]
  · rw [if_neg hn] at h
    cases h

end Go.Proofs.Ytnjniacohbeonaa.Q
