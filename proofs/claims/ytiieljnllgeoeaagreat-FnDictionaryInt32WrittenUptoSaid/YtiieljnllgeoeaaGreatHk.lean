/- The encoder by a dictionary, made. -/
import Derived.Test.YtiieljnllgeoeaaGreatHj
namespace Go.Proofs.YtiieljnllgeoeaaGreat.Q
open Go.RowKit Go.Proofs.YtiieljnllgeoeaaGreatW.PrintWords Go.Proofs.YtiieljnllgeoeaaGreatW.PrintLast Go.Proofs.YtiieljnllgeoeaaGreatW.PrintMore
attribute [local go_sem] max2_int max_two
set_option linter.unusedVariables false
set_option linter.unusedSimpArgs false
theorem tb_new64 (hh : Int → Nat) : Tb hh (List.replicate 64 e0) [] :=
 ⟨inv_iff (inv_none 64) (fun e => ⟨fun h => h.elim, fun ⟨k, h, _⟩ => by simp at h⟩), by simp, ⟨6, by simp⟩, List.nodup_nil⟩
set_option maxHeartbeats 2000000 in
set_option maxRecDepth 100000 in
theorem newht_calls (w : World) : Calls Tryz.prog 51 #[.int .u64 0] w fun e w' => e = .returned (.pointer (some ⟨w.heap.size + 1, 0, none⟩)) ∧ w' = (w.alloc (entO (List.replicate 64 e0))).alloc (.cells (tabL 64 63 0 w.heap.size 64) 150) := by
 have hp := pow2e_calls 32 w (by omega)
 rw [show (2 : Nat) ^ Lib.bitLen 32 = 64 by decide] at hp
 have HP := Aside0.mk (show Calls Tryz.prog 52 #[.int .i64 32] w (fun e w' => e = .returned (.int .i64 64) ∧ w' = w) from hp)
 have hmk : ∀ W : World, (Instr.makeSlice 148 (.int .u64 64) (.int .u64 64)).run Tryz.prog W = .ok (.slice (some ⟨W.heap.size, 0, none⟩) 64 64) (W.alloc (entO (List.replicate 64 e0))) := make_e 64 (by omega)
 have hO : ∃ o, o = entO (List.replicate 64 e0) := ⟨_, rfl⟩
 obtain ⟨o, ho⟩ := hO
 rw [← ho] at hmk ⊢
 clear hp ho
 go_enter Tryz.func51, Tryz.ntmps51
 go_wp2_with (first | (go_at_call 52; go_loud (with_reducible refine HP.out.mono ?_; rintro e w1 ⟨rfl, hw1⟩; subst w1)))
 go_ret
 exact ⟨rfl, rfl⟩
set_option maxHeartbeats 2000000 in
set_option maxRecDepth 100000 in
theorem newmt_calls (w : World) : Calls Tryz.prog 30 #[.int .i64 0] w fun e w' => ∃ T H M, e = .returned (.pointer (some ⟨T, 0, none⟩)) ∧ Mm w' w.heap.size T H M (List.replicate 64 e0) 0 ∧ Below w.heap.size w w' := by
 have HP := Aside0.mk (newht_calls w)
 go_enter Tryz.func30, Tryz.ntmps30
 go_wp2_with (first | (go_at_call 51; go_loud (with_reducible refine HP.out.mono ?_; rintro e w1 ⟨rfl, hw1⟩; have HW1 := Aside0.mk hw1; clear hw1)))
 go_ret
 have hb : Below w.heap.size w w1 := by rw [HW1.out]; exact below_alloc (below_alloc (Below.refl _ _) _) _
 have h1 : w1.heap[w.heap.size + 1]? = some (.cells (tabL 64 63 0 w.heap.size 64) 150) := by rw [HW1.out]; exact blk_at _ _ _ (by simp)
 have h2 : w1.heap[w.heap.size]? = some (entO (List.replicate 64 e0)) := by rw [HW1.out]; exact blk_alloc (blk_new w _) _
 exact ⟨w1.heap.size, w.heap.size + 1, w.heap.size, rfl, ⟨blk_new w1 _, hb.size, ⟨blk_alloc h1 _, blk_alloc h2 _, by omega, Nat.le_refl _⟩⟩, below_alloc hb _⟩
set_option maxHeartbeats 4000000 in
set_option maxRecDepth 100000 in
theorem base_calls (w : World) : Calls Tryz.prog 50 #[.iface 50 (.agg #[])] w fun e w' => ∃ S : Nat, e = .returned (.agg #[.iface 50 (.agg #[]), .pointer (some ⟨S, 0, none⟩), .int .i64 0]) ∧ Below w.heap.size w w' := by
 have hn := new_calls (w.alloc (.cells #[.nilIface, .pointer none, .int .i64 0] 59))
 have h0 := blk_new w (.cells #[.nilIface, .pointer none, .int .i64 0] 59)
 have hb0 : Below w.heap.size w (w.alloc (.cells #[.nilIface, .pointer none, .int .i64 0] 59)) := below_alloc (Below.refl _ _) _
 have hsz : (w.alloc (.cells #[.nilIface, .pointer none, .int .i64 0] 59)).heap.size = w.heap.size + 1 := by simp
 have H0 := Aside0.mk h0
 have HB0 := Aside0.mk hb0
 have HN := Aside0.mk hn
 rw [hsz] at HN
 clear hn h0 hb0 hsz
 go_enter Tryz.func50, Tryz.ntmps50
 go_wp2_with (first | (go_at_call 71; go_loud (refine HN.out.mono ?_; rintro e w1 ⟨rfl, B, D, l, G, g1, g2, g3, g4, g5⟩; have hh := (g5.block w.heap.size (Nat.lt_succ_self _)).trans H0.out; have c0 : w1.cell? ⟨w.heap.size, 0, none⟩ = some .nilIface := (blk_cell hh 0).trans rfl; have c1 : w1.cell? ⟨w.heap.size, 1, none⟩ = some (.pointer none) := (blk_cell hh 1).trans rfl; have c2 : w1.cell? ⟨w.heap.size, 2, none⟩ = some (.int .i64 0) := (blk_cell hh 2).trans rfl; have z0 := blk_frozen hh 0; have z1 := blk_frozen hh 1; have z2 := blk_frozen hh 2; have HH := Aside0.mk hh; have G5 := Aside0.mk g5; clear hh g1 g2 g3 g4 g5)))
 have f := blk_set (blk_set (blk_set HH.out 0 (.iface 50 (.agg #[]))) 1 (.pointer (some ⟨w.heap.size + 1, 0, none⟩))) 2 (.int .i64 0)
 have gb : Below w.heap.size w (((w1.setCell ⟨w.heap.size, 0, none⟩ (.iface 50 (.agg #[]))).setCell ⟨w.heap.size, 1, none⟩ (.pointer (some ⟨w.heap.size + 1, 0, none⟩))).setCell ⟨w.heap.size, 2, none⟩ (.int .i64 0)) :=
  below_set (below_set (below_set (HB0.out.trans (G5.out.mono (Nat.le_succ _))) (Nat.le_refl _)) (Nat.le_refl _)) (Nat.le_refl _)
 generalize ((w1.setCell ⟨w.heap.size, 0, none⟩ (.iface 50 (.agg #[]))).setCell ⟨w.heap.size, 1, none⟩ (.pointer (some ⟨w.heap.size + 1, 0, none⟩))).setCell ⟨w.heap.size, 2, none⟩ (.int .i64 0) = W at f gb ⊢
 have y0 : W.cell? ⟨w.heap.size, 0, none⟩ = some (.iface 50 (.agg #[])) := (blk_cell f 0).trans rfl
 have y1 : W.cell? ⟨w.heap.size, 1, none⟩ = some (.pointer (some ⟨w.heap.size + 1, 0, none⟩)) := (blk_cell f 1).trans rfl
 have y2 : W.cell? ⟨w.heap.size, 2, none⟩ = some (.int .i64 0) := (blk_cell f 2).trans rfl
 refine bodyPost_ret_by (v := .agg #[.iface 50 (.agg #[]), .pointer (some ⟨w.heap.size + 1, 0, none⟩), .int .i64 0]) ?_ rfl ⟨_, rfl, gb⟩
 simp [results, Tryz.results50, go_sem, y0, y1, y2]
set_option maxHeartbeats 8000000 in
set_option maxRecDepth 100000 in
theorem dbase_calls (T : Nat) (w : World) : Calls Tryz.prog 29 #[.iface 86 (.pointer (some ⟨T, 0, none⟩)), .iface 50 (.agg #[])] w fun e w' => ∃ S : Nat, e = .returned (.agg (encL S T 0 (.slice none 0 0) 0)) ∧ Below w.heap.size w w' := by
 have HN := Aside0.mk (base_calls (w.alloc (.cells #[.nilIface, .pointer none, .int .i64 0, .int .i64 0, .slice none 0 0, .nilIface, .bool false, .slice none 0 0, .slice none 0 0, .int .i64 0, .nilIface] 65)))
 have HB0 := Aside0.mk (show Below w.heap.size w (w.alloc (.cells #[.nilIface, .pointer none, .int .i64 0, .int .i64 0, .slice none 0 0, .nilIface, .bool false, .slice none 0 0, .slice none 0 0, .int .i64 0, .nilIface] 65)) from below_alloc (Below.refl _ _) _)
 have H0 := Aside0.mk (blk_new w (.cells #[.nilIface, .pointer none, .int .i64 0, .int .i64 0, .slice none 0 0, .nilIface, .bool false, .slice none 0 0, .slice none 0 0, .int .i64 0, .nilIface] 65))
 have hsz : w.heap.size ≤ (w.alloc (.cells #[.nilIface, .pointer none, .int .i64 0, .int .i64 0, .slice none 0 0, .nilIface, .bool false, .slice none 0 0, .slice none 0 0, .int .i64 0, .nilIface] 65)).heap.size := by simp
 have HSZ := Aside0.mk hsz
 clear hsz
 go_enter Tryz.func29, Tryz.ntmps29
 go_wp2_with (first | (go_at_call 50; go_loud (with_reducible refine HN.out.mono ?_; rintro e w1 ⟨S, rfl, b1⟩; have hh := (b1.block w.heap.size (blk_lt H0.out)).trans H0.out; have c0 : w1.cell? ⟨w.heap.size, 0, none⟩ = some (.nilIface) := (blk_cell hh 0).trans rfl; have z0 := blk_frozen hh 0; have c1 : w1.cell? ⟨w.heap.size, 1, none⟩ = some (.pointer none) := (blk_cell hh 1).trans rfl; have z1 := blk_frozen hh 1; have c2 : w1.cell? ⟨w.heap.size, 2, none⟩ = some (.int .i64 0) := (blk_cell hh 2).trans rfl; have z2 := blk_frozen hh 2; have c3 : w1.cell? ⟨w.heap.size, 3, none⟩ = some (.int .i64 0) := (blk_cell hh 3).trans rfl; have z3 := blk_frozen hh 3; have c4 : w1.cell? ⟨w.heap.size, 4, none⟩ = some (.slice none 0 0) := (blk_cell hh 4).trans rfl; have z4 := blk_frozen hh 4; have c5 : w1.cell? ⟨w.heap.size, 5, none⟩ = some (.nilIface) := (blk_cell hh 5).trans rfl; have z5 := blk_frozen hh 5; have c6 : w1.cell? ⟨w.heap.size, 6, none⟩ = some (.bool false) := (blk_cell hh 6).trans rfl; have z6 := blk_frozen hh 6; have c7 : w1.cell? ⟨w.heap.size, 7, none⟩ = some (.slice none 0 0) := (blk_cell hh 7).trans rfl; have z7 := blk_frozen hh 7; have c8 : w1.cell? ⟨w.heap.size, 8, none⟩ = some (.slice none 0 0) := (blk_cell hh 8).trans rfl; have z8 := blk_frozen hh 8; have c9 : w1.cell? ⟨w.heap.size, 9, none⟩ = some (.int .i64 0) := (blk_cell hh 9).trans rfl; have z9 := blk_frozen hh 9; have c10 : w1.cell? ⟨w.heap.size, 10, none⟩ = some (.nilIface) := (blk_cell hh 10).trans rfl; have z10 := blk_frozen hh 10; have HH := Aside0.mk hh; have HB1 := Aside0.mk (HB0.out.trans (b1.mono HSZ.out)); clear hh b1)))
 have f0 := HH.out
 have g0 := HB1.out
 clear c0 z0 c1 z1 c2 z2 c3 z3 c4 z4 c5 z5 c6 z6 c7 z7 c8 z8 c9 z9 c10 z10
 have f1 : (w1.setCell ⟨w.heap.size, 0, none⟩ (.iface 50 (.agg #[]))).heap[w.heap.size]? = some (.cells #[.iface 50 (.agg #[]), .pointer none, .int .i64 0, .int .i64 0, .slice none 0 0, .nilIface, .bool false, .slice none 0 0, .slice none 0 0, .int .i64 0, .nilIface] 65) := (blk_set f0 0 _).trans rfl
 have g1 := below_set (g := w.heap.size) (j := 0) (v := .iface 50 (.agg #[])) g0 (Nat.le_refl _)
 clear f0 g0
 generalize hw1 : w1.setCell ⟨w.heap.size, 0, none⟩ (.iface 50 (.agg #[])) = v1 at f1 g1 ⊢
 clear hw1
 have f2 : (v1.setCell ⟨w.heap.size, 1, none⟩ (.pointer (some ⟨S, 0, none⟩))).heap[w.heap.size]? = some (.cells #[.iface 50 (.agg #[]), .pointer (some ⟨S, 0, none⟩), .int .i64 0, .int .i64 0, .slice none 0 0, .nilIface, .bool false, .slice none 0 0, .slice none 0 0, .int .i64 0, .nilIface] 65) := (blk_set f1 1 _).trans rfl
 have g2 := below_set (g := w.heap.size) (j := 1) (v := .pointer (some ⟨S, 0, none⟩)) g1 (Nat.le_refl _)
 clear f1 g1
 generalize hw2 : v1.setCell ⟨w.heap.size, 1, none⟩ (.pointer (some ⟨S, 0, none⟩)) = v2 at f2 g2 ⊢
 clear hw2
 have f3 : (v2.setCell ⟨w.heap.size, 2, none⟩ (.int .i64 0)).heap[w.heap.size]? = some (.cells #[.iface 50 (.agg #[]), .pointer (some ⟨S, 0, none⟩), .int .i64 0, .int .i64 0, .slice none 0 0, .nilIface, .bool false, .slice none 0 0, .slice none 0 0, .int .i64 0, .nilIface] 65) := (blk_set f2 2 _).trans rfl
 have g3 := below_set (g := w.heap.size) (j := 2) (v := .int .i64 0) g2 (Nat.le_refl _)
 clear f2 g2
 generalize hw3 : v2.setCell ⟨w.heap.size, 2, none⟩ (.int .i64 0) = v3 at f3 g3 ⊢
 clear hw3
 have f4 : (v3.setCell ⟨w.heap.size, 3, none⟩ (.int .i64 0)).heap[w.heap.size]? = some (.cells #[.iface 50 (.agg #[]), .pointer (some ⟨S, 0, none⟩), .int .i64 0, .int .i64 0, .slice none 0 0, .nilIface, .bool false, .slice none 0 0, .slice none 0 0, .int .i64 0, .nilIface] 65) := (blk_set f3 3 _).trans rfl
 have g4 := below_set (g := w.heap.size) (j := 3) (v := .int .i64 0) g3 (Nat.le_refl _)
 clear f3 g3
 generalize hw4 : v3.setCell ⟨w.heap.size, 3, none⟩ (.int .i64 0) = v4 at f4 g4 ⊢
 clear hw4
 have f5 : (v4.setCell ⟨w.heap.size, 4, none⟩ (.slice none 0 0)).heap[w.heap.size]? = some (.cells #[.iface 50 (.agg #[]), .pointer (some ⟨S, 0, none⟩), .int .i64 0, .int .i64 0, .slice none 0 0, .nilIface, .bool false, .slice none 0 0, .slice none 0 0, .int .i64 0, .nilIface] 65) := (blk_set f4 4 _).trans rfl
 have g5 := below_set (g := w.heap.size) (j := 4) (v := .slice none 0 0) g4 (Nat.le_refl _)
 clear f4 g4
 generalize hw5 : v4.setCell ⟨w.heap.size, 4, none⟩ (.slice none 0 0) = v5 at f5 g5 ⊢
 clear hw5
 have f6 : (v5.setCell ⟨w.heap.size, 5, none⟩ (.iface 86 (.pointer (some ⟨T, 0, none⟩)))).heap[w.heap.size]? = some (.cells #[.iface 50 (.agg #[]), .pointer (some ⟨S, 0, none⟩), .int .i64 0, .int .i64 0, .slice none 0 0, .iface 86 (.pointer (some ⟨T, 0, none⟩)), .bool false, .slice none 0 0, .slice none 0 0, .int .i64 0, .nilIface] 65) := (blk_set f5 5 _).trans rfl
 have g6 := below_set (g := w.heap.size) (j := 5) (v := .iface 86 (.pointer (some ⟨T, 0, none⟩))) g5 (Nat.le_refl _)
 clear f5 g5
 generalize hw6 : v5.setCell ⟨w.heap.size, 5, none⟩ (.iface 86 (.pointer (some ⟨T, 0, none⟩))) = v6 at f6 g6 ⊢
 clear hw6
 have f7 : (v6.setCell ⟨w.heap.size, 6, none⟩ (.bool false)).heap[w.heap.size]? = some (.cells #[.iface 50 (.agg #[]), .pointer (some ⟨S, 0, none⟩), .int .i64 0, .int .i64 0, .slice none 0 0, .iface 86 (.pointer (some ⟨T, 0, none⟩)), .bool false, .slice none 0 0, .slice none 0 0, .int .i64 0, .nilIface] 65) := (blk_set f6 6 _).trans rfl
 have g7 := below_set (g := w.heap.size) (j := 6) (v := .bool false) g6 (Nat.le_refl _)
 clear f6 g6
 generalize hw7 : v6.setCell ⟨w.heap.size, 6, none⟩ (.bool false) = v7 at f7 g7 ⊢
 clear hw7
 have f8 : (v7.setCell ⟨w.heap.size, 7, none⟩ (.slice none 0 0)).heap[w.heap.size]? = some (.cells #[.iface 50 (.agg #[]), .pointer (some ⟨S, 0, none⟩), .int .i64 0, .int .i64 0, .slice none 0 0, .iface 86 (.pointer (some ⟨T, 0, none⟩)), .bool false, .slice none 0 0, .slice none 0 0, .int .i64 0, .nilIface] 65) := (blk_set f7 7 _).trans rfl
 have g8 := below_set (g := w.heap.size) (j := 7) (v := .slice none 0 0) g7 (Nat.le_refl _)
 clear f7 g7
 generalize hw8 : v7.setCell ⟨w.heap.size, 7, none⟩ (.slice none 0 0) = v8 at f8 g8 ⊢
 clear hw8
 have f9 : (v8.setCell ⟨w.heap.size, 8, none⟩ (.slice none 0 0)).heap[w.heap.size]? = some (.cells #[.iface 50 (.agg #[]), .pointer (some ⟨S, 0, none⟩), .int .i64 0, .int .i64 0, .slice none 0 0, .iface 86 (.pointer (some ⟨T, 0, none⟩)), .bool false, .slice none 0 0, .slice none 0 0, .int .i64 0, .nilIface] 65) := (blk_set f8 8 _).trans rfl
 have g9 := below_set (g := w.heap.size) (j := 8) (v := .slice none 0 0) g8 (Nat.le_refl _)
 clear f8 g8
 generalize hw9 : v8.setCell ⟨w.heap.size, 8, none⟩ (.slice none 0 0) = v9 at f9 g9 ⊢
 clear hw9
 have f10 : (v9.setCell ⟨w.heap.size, 9, none⟩ (.int .i64 0)).heap[w.heap.size]? = some (.cells #[.iface 50 (.agg #[]), .pointer (some ⟨S, 0, none⟩), .int .i64 0, .int .i64 0, .slice none 0 0, .iface 86 (.pointer (some ⟨T, 0, none⟩)), .bool false, .slice none 0 0, .slice none 0 0, .int .i64 0, .nilIface] 65) := (blk_set f9 9 _).trans rfl
 have g10 := below_set (g := w.heap.size) (j := 9) (v := .int .i64 0) g9 (Nat.le_refl _)
 clear f9 g9
 generalize hw10 : v9.setCell ⟨w.heap.size, 9, none⟩ (.int .i64 0) = v10 at f10 g10 ⊢
 clear hw10
 have f11 : (v10.setCell ⟨w.heap.size, 10, none⟩ (.nilIface)).heap[w.heap.size]? = some (.cells #[.iface 50 (.agg #[]), .pointer (some ⟨S, 0, none⟩), .int .i64 0, .int .i64 0, .slice none 0 0, .iface 86 (.pointer (some ⟨T, 0, none⟩)), .bool false, .slice none 0 0, .slice none 0 0, .int .i64 0, .nilIface] 65) := (blk_set f10 10 _).trans rfl
 have g11 := below_set (g := w.heap.size) (j := 10) (v := .nilIface) g10 (Nat.le_refl _)
 clear f10 g10
 generalize hw11 : v10.setCell ⟨w.heap.size, 10, none⟩ (.nilIface) = v11 at f11 g11 ⊢
 clear hw11
 have y0 : v11.cell? ⟨w.heap.size, 0, none⟩ = some (.iface 50 (.agg #[])) := (blk_cell f11 0).trans rfl
 have y1 : v11.cell? ⟨w.heap.size, 1, none⟩ = some (.pointer (some ⟨S, 0, none⟩)) := (blk_cell f11 1).trans rfl
 have y2 : v11.cell? ⟨w.heap.size, 2, none⟩ = some (.int .i64 0) := (blk_cell f11 2).trans rfl
 have y3 : v11.cell? ⟨w.heap.size, 3, none⟩ = some (.int .i64 0) := (blk_cell f11 3).trans rfl
 have y4 : v11.cell? ⟨w.heap.size, 4, none⟩ = some (.slice none 0 0) := (blk_cell f11 4).trans rfl
 have y5 : v11.cell? ⟨w.heap.size, 5, none⟩ = some (.iface 86 (.pointer (some ⟨T, 0, none⟩))) := (blk_cell f11 5).trans rfl
 have y6 : v11.cell? ⟨w.heap.size, 6, none⟩ = some (.bool false) := (blk_cell f11 6).trans rfl
 have y7 : v11.cell? ⟨w.heap.size, 7, none⟩ = some (.slice none 0 0) := (blk_cell f11 7).trans rfl
 have y8 : v11.cell? ⟨w.heap.size, 8, none⟩ = some (.slice none 0 0) := (blk_cell f11 8).trans rfl
 have y9 : v11.cell? ⟨w.heap.size, 9, none⟩ = some (.int .i64 0) := (blk_cell f11 9).trans rfl
 have y10 : v11.cell? ⟨w.heap.size, 10, none⟩ = some (.nilIface) := (blk_cell f11 10).trans rfl
 refine bodyPost_ret_by (v := .agg (encL S T 0 (.slice none 0 0) 0)) ?_ rfl ⟨_, rfl, g11⟩
 simp [results, Tryz.results29, go_sem, encL, y0, y1, y2, y3, y4, y5, y6, y7, y8, y9, y10]
set_option maxHeartbeats 4000000 in
set_option maxRecDepth 100000 in
/-- The encoder, new. -/
theorem newdk_calls (w : World) : Calls Tryz.prog 14 #[.iface 50 (.agg #[])] w fun e w' => ∃ E T H M S, e = .returned (.pointer (some ⟨E, 0, none⟩)) ∧ Dk w' w.heap.size E T H M S none 0 (List.replicate 64 e0) [] ∧ Below w.heap.size w w' := by
 have HM := Aside0.mk (newmt_calls w)
 go_enter Tryz.func14, Tryz.ntmps14
 go_wp2_with (first | (go_at_call 30; go_loud (with_reducible refine HM.out.mono ?_; rintro e w1 ⟨T, H, M, rfl, m1, b1⟩; have HB := Aside0.mk (dbase_calls T w1); have M1 := Aside0.mk (And.intro m1 b1); clear m1 b1)) | (go_at_call 29; go_loud (with_reducible refine HB.out.mono ?_; rintro e w2 ⟨S, rfl, b2⟩; unfold encL; have B2 := Aside0.mk b2; clear b2)))
 go_ret
 obtain ⟨m1, b1⟩ := M1.out
 have m2 := m1.low B2.out
 have b12 := b1.trans (B2.out.mono b1.size)
 have m3 := m2.low (below_alloc (Below.refl _ _) (.cells (encL S T 0 (.slice none 0 0) 0) 67))
 refine ⟨w2.heap.size, T, H, M, S, rfl, ⟨⟨0, ⟨blk_new w2 _, b12.size, m3⟩⟩, .inl ⟨rfl, rfl, rfl⟩, tb_new64 hh, by simp, by omega⟩, below_alloc b12 _⟩
end Go.Proofs.YtiieljnllgeoeaaGreat.Q
