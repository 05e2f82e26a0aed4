/- impl.Unpack32, walked. -/
import Derived.Test.YtidcmpjcghbofaaDoorUc
import Derived.Test.YtidcmpjcghbofaaDoorU32
import Derived.Recover
import Derived.Handy
import Derived.StillTailTactics
import Derived.Laws.CopyOwn
import Derived.Deep.RegionLaw
namespace Go.Proofs.YtidcmpjcghbofaaDoor.Q
open Go.RowKit Go.Proofs.YtidcmpjcghbofaaDoorW.PrintWords Go.Proofs.YtidcmpjcghbofaaDoorW.PrintLast Go.Proofs.YtidcmpjcghbofaaDoorW.PrintMore
set_option linter.unusedVariables false
set_option linter.unusedSimpArgs false
theorem Unpack32.calls (R O : Nat) (ad : Addr) (c : Nat) (q : Int) (l : List Int) (w : World) (hl : l.length = 128) (H : Src w R O ad c l)
    (hR : w.heap[R]? = some (.cells #[.slice (some ad) l.length c, .int .i64 0, .int .i64 q] 43 (0, 0)))
    (hO : w.heap[O]? = some (.cells ((List.replicate 32 (0 : Int)).map (Value.int .u32)).toArray 30 (0, 0))) (hne : R ≠ O) :
    Calls Tryd.prog 22 #[.iface 34 (.pointer (some ⟨R, 0, none⟩)), .slice (some ⟨O, 0, none⟩) 32 32] w fun e w' => e = .returned (.tuple #[]) ∧
      w'.heap[O]? = some (.cells ((fields l 32).map (Value.int .u32)).toArray 30 (0, 0)) ∧ Kept w w' (fun k => k = R ∨ k = O) ∧ Below (min R O) w w' := by
  have HC := Aside0.mk (unpack32_32.calls R O ad c q l w hl H hR hO hne)
  clear hl H hR hO
  go_enter Tryd.func22, Tryd.ntmps22
  go_wp2_with (go_at_call 32; refine HC.out.mono ?_; rintro e w' ⟨rfl, h1⟩; have H1 := Aside0.mk h1; clear h1)
  refine bodyPost_end (results_none rfl _ _ _) rfl ?_
  exact ⟨rfl, H1.out⟩

/-- What the call answers. -/
def impl_Unpack32.f (l0 : List Int) : Option (List Int × Bool) := unpF 32 l0

set_option maxHeartbeats 8000000 in
set_option maxRecDepth 100000 in
theorem impl_Unpack32.walk (A0 : Option Addr) (c0 : Nat) (l0 : List Int) (w : World) (hr0 : Kd.C (Kd.int .u8) w A0 l0.length l0) (hc0 : l0.length ≤ c0)
   (hn : l0.length = 128) (hb : ∀ x ∈ l0, 0 ≤ x ∧ x ≤ 255) :
    Calls Tryd.prog 11 #[.slice A0 l0.length c0] w fun e w' => ∃ v0_ : Value, e = .returned (.tuple #[v0_, .bool true]) ∧ Kd.R (Kd.int .u32) 30 w' w.heap.size (fun _ => True) v0_ (fields l0 32) ∧ Below w.heap.size w w' := by
  have hmk : ∀ W : World, (Instr.makeSlice 23 (.int .i64 32) (.int .i64 32)).run Tryd.prog W = .ok (.slice (some ⟨W.heap.size, 0, none⟩) 32 32) (W.alloc (.cells ((List.replicate 32 (0 : Int)).map (Value.int .u32)).toArray 30)) := fun W => by kernel_rfl
  obtain ⟨ad, rfl, _⟩ := Kd.at_int hr0 0 (by omega) (by omega)
  have HR0 := Aside0.mk hr0
  have HC0 := Aside0.mk hc0
  have HN := Aside0.mk hn
  have HB := Aside0.mk hb
  clear hr0 hc0 hn hb
  go_enter_defers Tryd.func11, Tryd.ntmps11
  go_wp2_with fail
  clear hmk
  obtain ⟨f1, f2, f3, f4, f5⟩ := three_blocks w (.cells #[.slice (some ⟨w.heap.size + 1 + 1, 0, none⟩) 32 32] 23) (.cells #[.bool false] 4) (.cells ((List.replicate 32 (0 : Int)).map (Value.int .u32)).toArray 30)
  simp only [List.replicate, List.map] at f1 f2 f3 f4 f5
  generalize (((w.alloc (.cells #[.slice (some ⟨w.heap.size + 1 + 1, 0, none⟩) 32 32] 23)).alloc (.cells #[.bool false] 4)).alloc (.cells #[.int .u32 0, .int .u32 0, .int .u32 0, .int .u32 0, .int .u32 0, .int .u32 0, .int .u32 0, .int .u32 0, .int .u32 0, .int .u32 0, .int .u32 0, .int .u32 0, .int .u32 0, .int .u32 0, .int .u32 0, .int .u32 0, .int .u32 0, .int .u32 0, .int .u32 0, .int .u32 0, .int .u32 0, .int .u32 0, .int .u32 0, .int .u32 0, .int .u32 0, .int .u32 0, .int .u32 0, .int .u32 0, .int .u32 0, .int .u32 0, .int .u32 0, .int .u32 0] 30)) = W6 at f1 f2 f3 f4 f5 ⊢
  have s0 : W6.cell? ⟨w.heap.size, 0, none⟩ = some (.slice (some ⟨w.heap.size + 1 + 1, 0, none⟩) 32 32) := (blk_cell f1 0).trans rfl
  have hR7 : (W6.drew.alloc (.cells #[.slice (some ad) l0.length c0, .int .i64 0, .int .i64 (-1)] 43)).heap[W6.heap.size]? = some (.cells #[.slice (some ad) l0.length c0, .int .i64 0, .int .i64 (-1)] 43 (0, 0)) := blk_new W6.drew _
  have hO7 : (W6.drew.alloc (.cells #[.slice (some ad) l0.length c0, .int .i64 0, .int .i64 (-1)] 43)).heap[w.heap.size + 1 + 1]? = some (.cells ((List.replicate 32 (0 : Int)).map (Value.int .u32)).toArray 30 (0, 0)) := blk_alloc (w := W6.drew) f3 _
  have b7 : Below w.heap.size w (W6.drew.alloc (.cells #[.slice (some ad) l0.length c0, .int .i64 0, .int .i64 (-1)] 43)) := f4.trans (((below_drew (Below.refl W6.heap.size W6)).trans (below_alloc (Below.refl _ W6.drew) _)).mono (by omega))
  have hsrc : Src (W6.drew.alloc (.cells #[.slice (some ad) l0.length c0, .int .i64 0, .int .i64 (-1)] 43)) W6.heap.size (w.heap.size + 1 + 1) ad c0 l0 := by
    refine ⟨HB.out, HC0.out, by have := HN.out; omega, fun W hk j hj => ?_⟩
    have hC := Kd.C_kept_came (Kd.heap_int _) HR0.out b7 (S := fun k => k = W6.heap.size ∨ k = w.heap.size + 1 + 1) (fun k hk => by omega) W hk
    obtain ⟨ad2, e, hc⟩ := Kd.at_int hC (j : Int) (by omega) (by omega)
    cases e
    simpa using hc
  have HCALL := Aside0.mk (Unpack32.calls W6.heap.size (w.heap.size + 1 + 1) ad c0 (-1) l0 _ HN.out hsrc hR7 hO7 (by omega))
  have F1 := Aside0.mk (blk_alloc (w := W6.drew) f1 (.cells #[.slice (some ad) l0.length c0, .int .i64 0, .int .i64 (-1)] 43))
  have F2 := Aside0.mk (blk_alloc (w := W6.drew) f2 (.cells #[.slice (some ad) l0.length c0, .int .i64 0, .int .i64 (-1)] 43))
  have F5 := Aside0.mk f5
  have B7 := Aside0.mk b7
  clear f1 f2 f3 f4 f5 hR7 hO7 b7 hsrc
  go_region_held3 (fun w' => w'.cell? ⟨w.heap.size, 0, none⟩ = some (.slice (some ⟨w.heap.size + 1 + 1, 0, none⟩) 32 32)) (go_keep) (first | (go_at_call 23; refine (newreader_calls _ _ _ _).mono ?_; rintro e w' ⟨rfl, rfl⟩) | (go_at_call 22; refine HCALL.out.mono ?_; rintro e w7 ⟨rfl, h1, h2, h3⟩; have H1 := Aside0.mk h1; have H2 := Aside0.mk h2; have H3 := Aside0.mk h3; clear h1 h2 h3; have s7 : w7.cell? ⟨w.heap.size, 0, none⟩ = some (.slice (some ⟨w.heap.size + 1 + 1, 0, none⟩) 32 32) := (blk_cell ((H2.out.2 w.heap.size (blk_lt F1.out) (by have := F5.out; omega)).trans F1.out) 0).trans rfl))
  have g1 := H2.out.2 w.heap.size (blk_lt F1.out) (by have := F5.out; omega)
  rw [F1.out] at g1
  have g2 := H2.out.2 (w.heap.size + 1) (blk_lt F2.out) (by have := F5.out; omega)
  rw [F2.out] at g2
  have c2_ : w7.cell? ⟨w.heap.size + 1, 0, none⟩ = some (.bool false) := (blk_cell g2 0).trans rfl
  have z1_ : w7.frozen? ⟨w.heap.size, 0, none⟩ = false := blk_frozen g1 0
  have z2_ : w7.frozen? ⟨w.heap.size + 1, 0, none⟩ = false := blk_frozen g2 0
  have hB7 : Below w.heap.size w w7 := B7.out.trans (H3.out.mono (by have := F5.out; omega))
  have hR : Kd.R (Kd.int .u32) 30 w7 w.heap.size (fun k => k = w.heap.size + 2) (.slice (some ⟨w.heap.size + 1 + 1, 0, none⟩) 32 32) (fields l0 32) := by
    have ho : w7.ownsRow w.heap.size 30 1 (.slice (some ⟨w.heap.size + 1 + 1, 0, none⟩) 32 32) (fields l0 32).length (encs (Value.int .u32) (fields l0 32)) := by
      rw [(fields_length l0 32)]
      exact ⟨by simp [encs, (fields_length l0 32)], .inr ⟨_, 32, _, rfl, by omega, H1.out, Nat.le_refl _, by decide, by simp [(fields_length l0 32)], by show (((fields l0 32).map (Value.int .u32)).toArray.toList.take (32 * 1)) = (fields l0 32).map (Value.int .u32); exact List.take_of_length_le (by simp [(fields_length l0 32)])⟩⟩
    exact Kd.R_of_own (h1 := fun _ => rfl) (ok := fun k => k = w.heap.size + 2) ho (fun k hk => by simp [Value.ownBlock] at hk; omega)
  have HRR := Aside0.mk (Kd.R_far (p := ⟨w.heap.size + 1, 0, none⟩) (Kd.R_far (p := ⟨w.heap.size, 0, none⟩) hR (fun k hk => by show k ≠ w.heap.size; omega) (.slice (some ⟨w.heap.size + 1 + 1, 0, none⟩) 32 32)) (fun k hk => by show k ≠ w.heap.size + 1; omega) (.bool true))
  have HBB := Aside0.mk (Below.setCell (p := ⟨w.heap.size + 1, 0, none⟩) (Below.setCell (p := ⟨w.heap.size, 0, none⟩) hB7 (Nat.le_refl _) (.slice (some ⟨w.heap.size + 1 + 1, 0, none⟩) 32 32)) (by show w.heap.size ≤ w.heap.size + 1; omega) (.bool true))
  clear g1 g2 hR hB7 HCALL F1 F2 F5 s0
  go_wp2_with fail
  refine leaves_cons (f := 21) (args := #[.pointer (some ⟨w.heap.size, 0, none⟩), .pointer (some ⟨w.heap.size + 1, 0, none⟩)]) (by simp) (by simp [go_sem]) ?_
  refine (noNumbers_idle _ _ _).mono ?_
  rintro e u' w'' ⟨rfl, rfl, rfl⟩
  refine ⟨.tuple #[.slice (some ⟨w.heap.size + 1 + 1, 0, none⟩) 32 32, .bool true], ?_, _, rfl, Kd.R_mono HRR.out (fun _ _ => trivial), HBB.out⟩
  simp [results, Tryd.results11, go_sem, s7, c2_]

theorem impl_Unpack32.calls (A0 : Option Addr) (c0 : Nat) (l0 : List Int) (r1 : List Int) (r2 : Bool) (w : World) (hr0 : Kd.C (Kd.int .u8) w A0 l0.length l0) (hc0 : l0.length ≤ c0) (h : impl_Unpack32.f l0 = some (r1, r2)) :
    Calls Tryd.prog 11 #[.slice A0 l0.length c0] w fun e w' => ∃ v0_ : Value, e = .returned (.tuple #[v0_, .bool r2]) ∧ Kd.R (Kd.int .u32) 30 w' w.heap.size (fun _ => True) v0_ r1 ∧ Below w.heap.size w w' := by
  unfold impl_Unpack32.f unpF at h
  by_cases hc : l0.length = 4 * 32 ∧ (∀ x ∈ l0, 0 ≤ x ∧ x ≤ 255)
  · rw [if_pos hc] at h
    simp only [Option.some.injEq, Prod.mk.injEq] at h
    obtain ⟨rfl, rfl⟩ := h
    exact impl_Unpack32.walk A0 c0 l0 w hr0 hc0 hc.1 hc.2
  · rw [if_neg hc] at h
    cases h
end Go.Proofs.YtidcmpjcghbofaaDoor.Q
