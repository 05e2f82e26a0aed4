/- The writer of runs, made. -/
import Derived.Test.YtiieljnllgeoeaaGreatGf
namespace Go.Proofs.YtiieljnllgeoeaaGreat.Q
open Go.RowKit Go.Proofs.YtiieljnllgeoeaaGreatW.PrintWords Go.Proofs.YtiieljnllgeoeaaGreatW.PrintLast Go.Proofs.YtiieljnllgeoeaaGreatW.PrintMore
set_option linter.unusedVariables false
set_option linter.unusedSimpArgs false
set_option maxRecDepth 100000 in
theorem newwab_calls (X n : Nat) (w : World) : Calls Tryz.prog 61 #[.slice (some ⟨X, 1, none⟩) n n] w fun e w' => e = .returned (.iface 182 (.pointer (some ⟨w.heap.size, 0, none⟩))) ∧ w' = w.alloc (.cells #[.slice (some ⟨X, 1, none⟩) n n] 184) := by
 go_enter Tryz.func61, Tryz.ntmps61
 go_wp2
 go_ret
 exact ⟨rfl, rfl⟩
set_option maxRecDepth 100000 in
theorem newbw_calls (B : Nat) (w : World) : Calls Tryz.prog 77 #[.iface 182 (.pointer (some ⟨B, 0, none⟩))] w fun e w' => e = .returned (.pointer (some ⟨w.heap.size, 0, none⟩)) ∧ w' = w.alloc (.cells (bwL (.iface 182 (.pointer (some ⟨B, 0, none⟩))) 0 0 0 (List.replicate 18 0)).toArray 197) := by
 go_enter Tryz.func77, Tryz.ntmps77
 go_wp2
 go_ret
 exact ⟨rfl, rfl⟩
theorem made_u64 (n : Nat) : madeCells #[.int .u64 0] n = ((List.replicate n (0 : Nat)).map fun x => Value.int .u64 ((x : Nat) : Int)).toArray := by
 apply Array.ext'
 simp [madeCells]
 apply List.ext_getElem <;> simp
 intro i h1
 simp [Nat.mod_one]
theorem info26_some : (Tryz.prog.info? 26).isSome = true := by kernel_rfl
def q8 : Obj := .cells ((List.replicate 8 (0 : Nat)).map fun x => Value.int .u64 ((x : Nat) : Int)).toArray 26
set_option maxRecDepth 100000 in
theorem make_q (W : World) : (Instr.makeSlice 37 (.int .i64 0) (.int .i64 8)).run Tryz.prog W = .ok (.slice (some ⟨W.heap.size, 0, none⟩) 0 8) (W.alloc q8) := by
 have hb : ((Tryz.prog.info? 26).get info26_some).bytes = 8 := by kernel_rfl
 have hs : ((Tryz.prog.info? 26).get info26_some).size = 1 := by kernel_rfl
 have hr := run_make (P := Tryz.prog) W 37 26 ((Tryz.prog.info? 26).get info26_some) (.int .u64 0) (by kernel_rfl) (Option.some_get _).symm (by kernel_rfl) .i64 .i64 0 8 (by omega) (by omega) (by rw [hb]; omega) (by omega)
 simp only [Int.toNat_zero, hs, Nat.mul_one] at hr
 rw [hr]
 have : Value.cells (.int .u64 0) = #[.int .u64 0] := rfl
 rw [this, made_u64]
 rfl
theorem blk_at (w : World) (o : Obj) (g : Nat) (hg : g = w.heap.size) : (w.alloc o).heap[g]? = some o := by
 subst hg
 exact blk_new w o
theorem rl_new {w : World} {lo R W Q wd B X n : Nat} {hh : Int} (hW : w.heap[W]? = some (.cells (bwL (.iface 182 (.pointer (some ⟨B, 0, none⟩))) 0 0 0 (List.replicate 18 0)).toArray 197)) (hQ : w.heap[Q]? = some q8)
  (hR : w.heap[R]? = some (.cells #[.pointer (some ⟨W, 0, none⟩), .slice (some ⟨Q, 0, none⟩) 0 8, .int .i64 (wd : Int), .int .u64 0, .int .i32 0, .int .i32 0, .int .i64 (-1), .int .u8 0] 181))
  (hB : w.heap[B]? = some (.cells #[.slice (some ⟨X, 1, none⟩) n n] 184 (0, 0))) (hX : Row w X (hh :: List.replicate n 0)) (hlB : lo ≤ B) (hlX : lo ≤ X) (hlW : lo ≤ W) (hlQ : lo ≤ Q) (hlR : lo ≤ R) (hn : n ≤ 16777216) : Rl w lo R W Q wd ⟨B, X, n, hh⟩ RE.new := by
 refine ⟨-1, ⟨⟨0, hR⟩, ⟨List.replicate 8 0, by simp [RE.new], hQ⟩, hlR, hlQ⟩, .inl ⟨rfl, rfl, [], 0, 0, ?_, rfl⟩, hn⟩
 refine St.of_bs (rs := List.replicate 18 0) ⟨⟨hW, by simp⟩, hB, ?_, Nat.zero_le _, hn, hlW, hlB, hlX⟩
 simpa using hX
set_option maxHeartbeats 2000000 in
set_option maxRecDepth 100000 in
theorem newrle_calls (B X n lo wd : Nat) (hh : Int) (w : World) (hB : w.heap[B]? = some (.cells #[.slice (some ⟨X, 1, none⟩) n n] 184 (0, 0))) (hX : Row w X (hh :: List.replicate n 0)) (hlB : lo ≤ B) (hlX : lo ≤ X) (hn : n ≤ 16777216) :
  Calls Tryz.prog 60 #[.iface 182 (.pointer (some ⟨B, 0, none⟩)), .int .i64 (wd : Int)] w fun e w' => ∃ R W Q, e = .returned (.pointer (some ⟨R, 0, none⟩)) ∧ Rl w' lo R W Q wd ⟨B, X, n, hh⟩ RE.new ∧ Below w.heap.size w w' := by
 have hq := make_q
 go_enter Tryz.func60, Tryz.ntmps60
 go_upto_region 1 with (fail)
 go_region_with (first | (go_at_call 77; go_loud (with_reducible refine (newbw_calls B _).mono ?_; rintro e w1 ⟨rfl, rfl⟩)))
 all_goals go_wp2
 all_goals go_ret
 all_goals have hs := blk_lt hB
 ·refine ⟨_, _, _, rfl, rl_new (blk_alloc (blk_alloc (blk_new _ _) _) _) (blk_alloc (blk_at _ _ _ (by simp)) _) (blk_at _ _ _ (by simp)) (blk_alloc (blk_alloc (blk_alloc hB _) _) _) (blk_alloc (blk_alloc (blk_alloc hX _) _) _) hlB hlX (by omega) (by omega) (by omega) hn, ?_⟩
  repeat (first | exact Below.refl _ _ | apply below_alloc | apply below_drew)
 ·refine ⟨_, _, _, rfl, rl_new (blk_alloc (blk_at _ _ _ (by simp)) _) (blk_alloc (blk_alloc (blk_new _ _) _) _) (blk_at _ _ _ (by simp)) (blk_alloc (blk_alloc (blk_alloc hB _) _) _) (blk_alloc (blk_alloc (blk_alloc hX _) _) _) hlB hlX (by omega) (by omega) (by omega) hn, ?_⟩
  repeat (first | exact Below.refl _ _ | apply below_alloc | apply below_drew)
end Go.Proofs.YtiieljnllgeoeaaGreat.Q
