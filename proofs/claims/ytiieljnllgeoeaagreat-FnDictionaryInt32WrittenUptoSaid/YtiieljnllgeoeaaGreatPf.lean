/- spec.PlainFloats, where no float is asked for. -/
import Derived.Test.YtiieljnllgeoeaaGreatHk
import Derived.Laws.Externs
namespace Go.Proofs.YtiieljnllgeoeaaGreat.Q
open Go.RowKit Go.Proofs.YtiieljnllgeoeaaGreatW.PrintWords Go.Proofs.YtiieljnllgeoeaaGreatW.PrintLast Go.Proofs.YtiieljnllgeoeaaGreatW.PrintMore
set_option linter.unusedVariables false
set_option linter.unusedSimpArgs false
theorem ext45 (n : Int) (W : World) : (callFunc 45 #[.int .u32 n]).run Tryz.prog W = .ok (.value (.float .f32 n.toNat)) W := by
 rw [run_callFunc_extern (P := Tryz.prog) Tryz.func45 (by kernel_rfl) (by kernel_rfl) (by kernel_rfl) (e := Extern.MathFloatBits.float32frombits) (by kernel_rfl)]
 rfl
theorem cvf (b : Nat) (W : World) : ∃ y k, (convert 110 77 (.float .f32 b)).run Tryz.prog W = .ok (.float .f64 y) (W.drewN k) := by
 have hs : Tryz.prog.underlying 110 = some (.float .f32) := by kernel_rfl
 have hd : Tryz.prog.underlying 77 = some (.float .f64) := by kernel_rfl
 cases h : FloatKind.f32.decode b with
 | nan x y => exact ⟨_, 1, by simp [convert, run_underlying hs, run_underlying hd, Conv.floatToFloat, h, go_sem]; exact ⟨rfl, rfl⟩⟩
 | infinity s => exact ⟨_, 0, by simp [convert, run_underlying hs, run_underlying hd, Conv.floatToFloat, h, go_sem]; exact ⟨rfl, rfl⟩⟩
 | number s m e =>
  by_cases c : (FloatKind.f64.decode (FloatKind.f64.encode (.number s m e))).isInfinity = true
  ·exact ⟨_, 1, by simp [convert, run_underlying hs, run_underlying hd, Conv.floatToFloat, h, c, go_sem]; exact ⟨rfl, rfl⟩⟩
  ·exact ⟨_, 0, by simp [convert, run_underlying hs, run_underlying hd, Conv.floatToFloat, h, c, go_sem]; exact ⟨rfl, rfl⟩⟩
set_option maxHeartbeats 1000000 in
set_option maxRecDepth 100000 in
theorem floatOf_calls (n : Int) (w : World) : Calls Tryz.prog 23 #[.int .i64 32, .int .u64 n] w fun e w' => (∃ x, e = .returned (.float .f64 x)) ∧ ∃ k, w' = w.drewN k := by
 have hext := ext45
 obtain ⟨y, k, hy⟩ := cvf ((n % 4294967296).toNat) w
 go_enter Tryz.func23, Tryz.ntmps23
 go_wp2
 go_ret
 exact ⟨⟨_, rfl⟩, k, rfl⟩
set_option maxHeartbeats 8000000 in
set_option maxRecDepth 100000 in
theorem pf_walk (a0_0 : Int) (a0_2 : Bool) (a0_3 : Int) (a0_4 : Int) (a0_5 : Int) (a0_6 : ByteArray) (a0_7 : Bool) (A0_8 : Option Addr) (c0_8 : Nat) (l0_8 : List Int) (A0_9 : Option Addr) (c0_9 : Nat) (l0_9 : List Int) (A1 : Option Addr) (c1 : Nat) (l1 : List (S29)) (w : World) (hr1 : Kd.C k29 w A1 l1.length l1) (hc1 : l1.length ≤ c1) (hk : a0_0 ≠ 3) (hl : l1.length ≤ 1000000) :
  Calls Tryz.prog 6 #[.agg #[.int .i64 a0_0, .int .i64 32, .bool a0_2, .int .i64 a0_3, .int .i64 a0_4, .int .i64 a0_5, .string a0_6, .bool a0_7, .slice A0_8 l0_8.length c0_8, .slice A0_9 l0_9.length c0_9], .slice A1 l1.length c1] w fun e w' => e = .returned (.bool true) ∧ Below w.heap.size w w' := by
 have h2 : Below w.heap.size w (w.alloc (.cells #[.int .i64 a0_0, .int .i64 32, .bool a0_2, .int .i64 a0_3, .int .i64 a0_4, .int .i64 a0_5, .string a0_6, .bool a0_7, .slice A0_8 l0_8.length c0_8, .slice A0_9 l0_9.length c0_9] 35)) := below_alloc (Below.refl _ _) _
 have k1 : (w.alloc (.cells #[.int .i64 a0_0, .int .i64 32, .bool a0_2, .int .i64 a0_3, .int .i64 a0_4, .int .i64 a0_5, .string a0_6, .bool a0_7, .slice A0_8 l0_8.length c0_8, .slice A0_9 l0_9.length c0_9] 35)).heap[w.heap.size]? = some (.cells #[.int .i64 a0_0, .int .i64 32, .bool a0_2, .int .i64 a0_3, .int .i64 a0_4, .int .i64 a0_5, .string a0_6, .bool a0_7, .slice A0_8 l0_8.length c0_8, .slice A0_9 l0_9.length c0_9] 35 (0, 0)) := blk_new w _
 have HR1 := Aside0.mk hr1
 have HKL := Aside0.mk hl
 have hkd : decide (a0_0 = 3) = false := decide_eq_false hk
 have H2 := Aside0.mk h2
 have K1 := Aside0.mk k1
 clear h2 k1 hr1 hl
 go_enter Tryz.func6, Tryz.ntmps6
 go_wp2
 go_loopg [10] (l1.length + 1) (fun kq v10 w' => ∃ (i : Nat), v10 = .int .i64 (i : Int) ∧ Aside0 (i + kq = l1.length + 1) ∧ Aside0 (i ≤ l1.length) ∧ Aside0 (w'.heap[w.heap.size]? = some (.cells #[.int .i64 a0_0, .int .i64 32, .bool a0_2, .int .i64 a0_3, .int .i64 a0_4, .int .i64 a0_5, .string a0_6, .bool a0_7, .slice A0_8 l0_8.length c0_8, .slice A0_9 l0_9.length c0_9] 35 (0, 0))) ∧ Aside0 (Below w.heap.size w w'))
 case atStart => exact ⟨0, rfl, ⟨by omega⟩, ⟨by omega⟩, K1, H2⟩
 case round =>
  clear K1 H2
  obtain ⟨i, rfl, HKK, HI, HK, HB⟩ := hrel
  cases gk with
  | zero => exact absurd HKK.out (by have := HI.out; omega)
  | succ k1 =>
   by_cases c2 : (i : Int) < (l1.length : Int)
   ·have c2b : decide ((i : Int) < (l1.length : Int)) = true := decide_eq_true c2
    have c2n : decide (i < l1.length) = true := decide_eq_true (by omega)
    obtain ⟨ad, A3, c3, e1, hx0, hx1, hx2, hx3, hl3, hi3⟩ := at_T29 HR1.out (i : Int) (by omega) c2
    cases e1
    replace hx0 := (HB.out.cell (World.block_lt_of_cell? w _ hx0)).trans hx0
    replace hx1 := (HB.out.cell (World.block_lt_of_cell? w _ hx1)).trans hx1
    replace hx2 := (HB.out.cell (World.block_lt_of_cell? w _ hx2)).trans hx2
    replace hx3 := (HB.out.cell (World.block_lt_of_cell? w _ hx3)).trans hx3
    have r0 : (wr.alloc (.cells #[.bool (rd_T29 l1 (i : Int)).f0, .int .u64 (rd_T29 l1 (i : Int)).f1, .string (rd_T29 l1 (i : Int)).f2, .slice A3 (rd_T29 l1 (i : Int)).f3.length c3] 29)).cell? ⟨w.heap.size, 0, none⟩ = some (.int .i64 a0_0) := (blk_cell (blk_alloc HK.out _) 0).trans rfl
    have r1 : (wr.alloc (.cells #[.bool (rd_T29 l1 (i : Int)).f0, .int .u64 (rd_T29 l1 (i : Int)).f1, .string (rd_T29 l1 (i : Int)).f2, .slice A3 (rd_T29 l1 (i : Int)).f3.length c3] 29)).cell? ⟨w.heap.size, 1, none⟩ = some (.int .i64 32) := (blk_cell (blk_alloc HK.out _) 1).trans rfl
    have g0 : (0 : Int) ≤ (i : Int) := by omega
    have HLT := Aside0.mk (blk_lt HK.out)
    simp only [Int.toNat_natCast] at hx0 hx1 hx2 hx3
    clear hl3 hi3
    go_wp2_with (first | (go_at_call 23; go_loud (refine (floatOf_calls _ _).mono ?_; rintro e w2 ⟨⟨x, rfl⟩, k, hw2⟩; subst w2)))
    go_roundg k1
    case measure => have := HKK.out; omega
    case rel => exact ⟨i + 1, (by have hwi : wrap64 ((i : Int) + 1) = (i : Int) + 1 := (by have := HKL.out; unfold wrap64; omega); simp [hwi]), ⟨by have := HKK.out; omega⟩, ⟨by omega⟩, ⟨blk_alloc HK.out _⟩, ⟨pw_below_drewN (HB.out.trans ((below_alloc (Below.refl _ _) _).mono (Nat.le_of_lt HLT.out))) _⟩⟩
   ·have c2b : decide ((i : Int) < (l1.length : Int)) = false := decide_eq_false c2
    have c2n : decide (i < l1.length) = false := decide_eq_false (by omega)
    go_wp2
    go_ret
    exact ⟨rfl, HB.out⟩
def spec_PlainFloats.f (a0_0 : Int) (a0_1 : Int) (a0_2 : Bool) (a0_3 : Int) (a0_4 : Int) (a0_5 : Int) (a0_6 : ByteArray) (a0_7 : Bool) (l0_8 : List Int) (l0_9 : List Int) (l1 : List (S29)) : Option (Bool) := if a0_0 ≠ 3 ∧ a0_1 = 32 ∧ l1.length ≤ 1000000 then (some true) else (none)
theorem spec_PlainFloats.calls (a0_0 : Int) (a0_1 : Int) (a0_2 : Bool) (a0_3 : Int) (a0_4 : Int) (a0_5 : Int) (a0_6 : ByteArray) (a0_7 : Bool) (A0_8 : Option Addr) (c0_8 : Nat) (l0_8 : List Int) (A0_9 : Option Addr) (c0_9 : Nat) (l0_9 : List Int) (A1 : Option Addr) (c1 : Nat) (l1 : List (S29)) (r : Bool) (w : World) (hr0_8 : Kd.C (Kd.int .i64) w A0_8 l0_8.length l0_8) (hc0_8 : l0_8.length ≤ c0_8) (hr0_9 : Kd.C (Kd.int .i64) w A0_9 l0_9.length l0_9) (hc0_9 : l0_9.length ≤ c0_9) (hr1 : Kd.C k29 w A1 l1.length l1) (hc1 : l1.length ≤ c1) (h : spec_PlainFloats.f a0_0 a0_1 a0_2 a0_3 a0_4 a0_5 a0_6 a0_7 l0_8 l0_9 l1 = some r) :
  Calls Tryz.prog 6 #[.agg #[.int .i64 a0_0, .int .i64 a0_1, .bool a0_2, .int .i64 a0_3, .int .i64 a0_4, .int .i64 a0_5, .string a0_6, .bool a0_7, .slice A0_8 l0_8.length c0_8, .slice A0_9 l0_9.length c0_9], .slice A1 l1.length c1] w fun e w' => e = .returned (.bool r) ∧ Below w.heap.size w w' := by
 unfold spec_PlainFloats.f at h
 by_cases c : a0_0 ≠ 3 ∧ a0_1 = 32 ∧ l1.length ≤ 1000000
 ·rw [if_pos c] at h
  cases h
  obtain ⟨h1, rfl, h3⟩ := c
  exact pf_walk a0_0 a0_2 a0_3 a0_4 a0_5 a0_6 a0_7 A0_8 c0_8 l0_8 A0_9 c0_9 l0_9 A1 c1 l1 w hr1 hc1 h1 h3
 ·rw [if_neg c] at h
  cases h
end Go.Proofs.YtiieljnllgeoeaaGreat.Q
