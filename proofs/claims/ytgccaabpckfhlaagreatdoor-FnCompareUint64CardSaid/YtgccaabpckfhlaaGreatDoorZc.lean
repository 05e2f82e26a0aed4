/- PutAt: a number laid into its bytes. -/
import Derived.Test.YtgccaabpckfhlaaGreatDoorZb
namespace Go.Proofs.YtgccaabpckfhlaaGreatDoor.Q
open Go.RowKit Go.Proofs.YtgccaabpckfhlaaGreatDoorW.PrintWords Go.Proofs.YtgccaabpckfhlaaGreatDoorW.PrintLast Go.Proofs.YtgccaabpckfhlaaGreatDoorW.PrintMore
set_option linter.unusedVariables false
set_option linter.unusedSimpArgs false
set_option maxHeartbeats 1000000 in
set_option maxRecDepth 100000 in
theorem putOne_calls (X o c : Nat) (l : List Int) (x : Int) (w : World) (h : Row w X l) (ho : o + 8 ≤ l.length) (h0 : 0 ≤ x) (h1 : x < 18446744073709551616) :
    Calls Tryz.prog 23 #[.slice (some ⟨X, o, none⟩) 8 c, .int .u64 x] w fun e w' => e = .returned (.tuple #[]) ∧ Row w' X (l.take o ++ le8 x ++ l.drop (o + 8)) ∧ Kept w w' (fun k => k = X) ∧ Below X w w' := by
  obtain ⟨z79, h79⟩ := as78_79 (.pointer (some ⟨w.heap.size, 0, none⟩))
  obtain ⟨z80, h80⟩ := as78_80 (.pointer (some ⟨w.heap.size, 0, none⟩))
  obtain ⟨z81, h81⟩ := as78_81 (.pointer (some ⟨w.heap.size, 0, none⟩))
  obtain ⟨z82, h82⟩ := as78_82 (.pointer (some ⟨w.heap.size, 0, none⟩))
  obtain ⟨z83, h83⟩ := as78_83 (.pointer (some ⟨w.heap.size, 0, none⟩))
  obtain ⟨z84, h84⟩ := as78_84 (.pointer (some ⟨w.heap.size, 0, none⟩))
  obtain ⟨z85, h85⟩ := as78_85 (.pointer (some ⟨w.heap.size, 0, none⟩))
  obtain ⟨z86, h86⟩ := as78_86 (.pointer (some ⟨w.heap.size, 0, none⟩))
  obtain ⟨z87, h87⟩ := as78_87 (.pointer (some ⟨w.heap.size, 0, none⟩))
  obtain ⟨z88, h88⟩ := as78_88 (.pointer (some ⟨w.heap.size, 0, none⟩))
  obtain ⟨z89, h89⟩ := as78_89 (.pointer (some ⟨w.heap.size, 0, none⟩))
  obtain ⟨z90, h90⟩ := as78_90 (.pointer (some ⟨w.heap.size, 0, none⟩))
  obtain ⟨z91, h91⟩ := as78_91 (.pointer (some ⟨w.heap.size, 0, none⟩))
  have h78 := as78_78 (.pointer (some ⟨w.heap.size, 0, none⟩))
  have HP := Aside0.mk (fun W (hW : Row W X l) => put64_calls X o 8 c l x W hW (by omega) ho h0 h1)
  have hX := h.lt
  have HX := Aside0.mk hX
  have H := Aside0.mk ((h.alloc (.cells #[.int .u64 x] 26)))
  clear h h0 h1 ho hX
  go_enter Tryz.func23, Tryz.ntmps23
  go_wp2
  have hc : (w.alloc (.cells #[.int .u64 x] 26)).cell? ⟨w.heap.size, 0, none⟩ = some (.int .u64 x) := (blk_cell (blk_new w _) 0).trans rfl
  have hk0 : Kept w (w.alloc (.cells #[.int .u64 x] 26)) (fun k => k = X) := (Kept.refl w (fun k => k = X)).alloc (.cells #[.int .u64 x] 26)
  have hb0 : Below w.heap.size w (w.alloc (.cells #[.int .u64 x] 26)) := below_alloc (Below.refl _ w) (.cells #[.int .u64 x] 26)
  have HK := Aside0.mk hk0
  have HB := Aside0.mk hb0
  clear hk0 hb0
  generalize (w.alloc (.cells #[.int .u64 x] 26)) = wa at H HK HB hc ⊢
  have hc2 : wa.drew.cell? ⟨w.heap.size, 0, none⟩ = some (.int .u64 x) := hc
  simp only [World.drew] at hc2
  go_still_tail 5, (by kernel_rfl)
  change wpList _ _ _ _ _ wa.drew
  go_wp2_with (first | (go_at_call 37; refine (HP.out wa.drew H.out).mono ?_; rintro e w1 ⟨rfl, e1, e2, e3⟩; have E := Aside0.mk (And.intro e1 (And.intro e2 e3)); clear e1 e2 e3))
  go_end0
  obtain ⟨e1, e2, e3⟩ := E.out
  have hX := HX.out
  exact ⟨rfl, e1, (HK.out.drew).then_ e2 (fun k hk => .inl hk), (Below.drew (HB.out.mono (by omega))).trans e3⟩

set_option maxHeartbeats 1000000 in
set_option maxRecDepth 100000 in
theorem putAt_calls (X n i : Nat) (l : List Int) (x : Int) (w : World) (h : Row w X l) (hn : l.length = n) (hi : 8 * i + 8 ≤ n) (hm : n ≤ 16777216) (h0 : 0 ≤ x) (h1 : x < 18446744073709551616) :
    Calls Tryz.prog 13 #[.slice (some ⟨X, 0, none⟩) n n, .int .i64 (i : Int), .int .u64 x] w fun e w' => e = .returned (.tuple #[]) ∧ Row w' X (l.take (8 * i) ++ le8 x ++ l.drop (8 * i + 8)) ∧ Kept w w' (fun k => k = X) ∧ Below X w w' := by
  have HS := Aside0.mk (sizeOf_calls w)
  have hsl := sliceAt_b X (i * 8) (i * 8 + 8) n (by omega) (by omega) hm
  rw [show i * 8 + 8 - i * 8 = 8 by omega, show ((i * 8 + 8 : Nat) : Int) = (i : Int) * 8 + 8 by omega, show ((i * 8 : Nat) : Int) = (i : Int) * 8 by omega] at hsl
  have HP := Aside0.mk (fun W (hW : Row W X l) => putOne_calls X (i * 8) (n - i * 8) l x W hW (by omega) h0 h1)
  have hX := h.lt
  have HX := Aside0.mk hX
  have H := Aside0.mk h
  have HI := Aside0.mk hi
  have h8 : (0 : Int) ≤ (i : Int) * 8 := by omega
  have h9 : (i : Int) * 8 ≤ 16777216 := by omega
  have e1 : 8 * i = i * 8 := by omega
  rw [e1]
  clear h h0 h1 hX hn hi e1
  go_enter Tryz.func13, Tryz.ntmps13
  go_wp2_with (first | (go_at_call 22; refine HS.out.mono ?_; rintro e w1 ⟨rfl, hb⟩; have HB := Aside0.mk hb; have H1 := Aside0.mk (RowK.below H.out hb); clear hb) | (go_at_call 23; refine (HP.out w1 H1.out).mono ?_; rintro e w2 ⟨rfl, e1, e2, e3⟩; have E := Aside0.mk (And.intro e1 (And.intro e2 e3)); clear e1 e2 e3))
  go_end0
  obtain ⟨e1, e2, e3⟩ := E.out
  have hX := HX.out
  exact ⟨rfl, e1, ((Kept.refl w (fun k => k = X)).below HB.out).then_ e2 (fun k hk => .inl hk), (HB.out.mono (by omega)).trans e3⟩
end Go.Proofs.YtgccaabpckfhlaaGreatDoor.Q
