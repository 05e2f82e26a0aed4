/- spec.PlainBytes. -/
import Derived.Test.YtiieljnllgeoeaaGreatHk
namespace Go.Proofs.YtiieljnllgeoeaaGreat.Q
open Go.RowKit Go.Proofs.YtiieljnllgeoeaaGreatW.PrintWords Go.Proofs.YtiieljnllgeoeaaGreatW.PrintLast Go.Proofs.YtiieljnllgeoeaaGreatW.PrintMore
set_option linter.unusedVariables false
set_option linter.unusedSimpArgs false
/-- n bytes, the lowest first. -/
def leN (n : Nat) (x : Int) : List Int := (List.range n).map fun i => x / 2 ^ (8 * i) % 256
theorem leN_len (n : Nat) (x : Int) : (leN n x).length = n := by simp [leN]
theorem leN_step (n : Nat) (x : Int) : leN (n + 1) x = leN n x ++ [x / 2 ^ (8 * n) % 256] := by simp [leN, List.range_succ]
set_option maxHeartbeats 8000000 in
set_option maxRecDepth 100000 in
theorem pb_num (nb : Nat) (s : Bool) (a0_0 : Int) (a0_1 : Int) (a0_2 : Bool) (a0_3 : Int) (a0_4 : Int) (a0_5 : Int) (a0_6 : ByteArray) (a0_7 : Bool) (A0_8 : Option Addr) (c0_8 : Nat) (l0_8 : List Int) (A0_9 : Option Addr) (c0_9 : Nat) (l0_9 : List Int) (a1_0 : Bool) (a1_1 : Int) (a1_2 : ByteArray) (A1_3 : Option Addr) (c1_3 : Nat) (l1_3 : List (S29)) (w : World) (hr0_8 : Kd.C (Kd.int .i64) w A0_8 l0_8.length l0_8) (hc0_8 : l0_8.length ≤ c0_8) (hr0_9 : Kd.C (Kd.int .i64) w A0_9 l0_9.length l0_9) (hc0_9 : l0_9.length ≤ c0_9) (hr1_3 : Kd.C k29 w A1_3 l1_3.length l1_3) (hc1_3 : l1_3.length ≤ c1_3)
  (hnb : nb = 4 ∨ nb = 8) (hx0 : 0 ≤ a1_1) (hx1 : a1_1 < 18446744073709551616)
  (h : spec_OneBits.f 3 a0_0 a0_1 a0_2 a0_3 a0_4 a0_5 a0_6 a0_7 l0_8 l0_9 = some (8 * (nb : Int), s)) :
  Calls Tryz.prog 25 #[.agg #[.int .i64 a0_0, .int .i64 a0_1, .bool a0_2, .int .i64 a0_3, .int .i64 a0_4, .int .i64 a0_5, .string a0_6, .bool a0_7, .slice A0_8 l0_8.length c0_8, .slice A0_9 l0_9.length c0_9], .agg #[.bool a1_0, .int .u64 a1_1, .string a1_2, .slice A1_3 l1_3.length c1_3]] w fun e w' => ∃ v0_ : Value, e = .returned v0_ ∧ Kd.R (Kd.int .u8) 5 w' w.heap.size (fun _ => True) v0_ (leN nb a1_1) ∧ Below w.heap.size w w' := by
 have h2 : Below w.heap.size w ((w.alloc (.cells #[.int .i64 a0_0, .int .i64 a0_1, .bool a0_2, .int .i64 a0_3, .int .i64 a0_4, .int .i64 a0_5, .string a0_6, .bool a0_7, .slice A0_8 l0_8.length c0_8, .slice A0_9 l0_9.length c0_9] 35)).alloc (.cells #[.bool a1_0, .int .u64 a1_1, .string a1_2, .slice A1_3 l1_3.length c1_3] 29)) := below_alloc (below_alloc (Below.refl _ _) _) _
 have k1 : ((w.alloc (.cells #[.int .i64 a0_0, .int .i64 a0_1, .bool a0_2, .int .i64 a0_3, .int .i64 a0_4, .int .i64 a0_5, .string a0_6, .bool a0_7, .slice A0_8 l0_8.length c0_8, .slice A0_9 l0_9.length c0_9] 35)).alloc (.cells #[.bool a1_0, .int .u64 a1_1, .string a1_2, .slice A1_3 l1_3.length c1_3] 29)).heap[w.heap.size + 1]? = some (.cells #[.bool a1_0, .int .u64 a1_1, .string a1_2, .slice A1_3 l1_3.length c1_3] 29 (0, 0)) := by
  have h := blk_new (w.alloc (.cells #[.int .i64 a0_0, .int .i64 a0_1, .bool a0_2, .int .i64 a0_3, .int .i64 a0_4, .int .i64 a0_5, .string a0_6, .bool a0_7, .slice A0_8 l0_8.length c0_8, .slice A0_9 l0_9.length c0_9] 35)) (.cells #[.bool a1_0, .int .u64 a1_1, .string a1_2, .slice A1_3 l1_3.length c1_3] 29)
  simpa using h
 have ks : ((w.alloc (.cells #[.int .i64 a0_0, .int .i64 a0_1, .bool a0_2, .int .i64 a0_3, .int .i64 a0_4, .int .i64 a0_5, .string a0_6, .bool a0_7, .slice A0_8 l0_8.length c0_8, .slice A0_9 l0_9.length c0_9] 35)).alloc (.cells #[.bool a1_0, .int .u64 a1_1, .string a1_2, .slice A1_3 l1_3.length c1_3] 29)).heap.size = w.heap.size + 2 := by simp
 have HO := Aside0.mk (spec_OneBits.calls 3 a0_0 a0_1 a0_2 a0_3 a0_4 a0_5 a0_6 a0_7 A0_8 c0_8 l0_8 A0_9 c0_9 l0_9 (8 * (nb : Int)) s _ (Kd.C_below hr0_8 h2) hc0_8 (Kd.C_below hr0_9 h2) hc0_9 h)
 have H2 := Aside0.mk h2
 have K1 := Aside0.mk k1
 have KS := Aside0.mk ks
 have g1 : decide (8 * (nb : Int) > 0) = true := by simp; omega
 have g2 : Int.tdiv (8 * (nb : Int)) 8 = (nb : Int) := by rcases hnb with rfl | rfl <;> decide
 clear h2 k1 ks h hr0_8 hr0_9 hr1_3
 go_enter Tryz.func25, Tryz.ntmps25
 go_wp2_with (first | (go_at_call 48; refine HO.out.mono ?_; rintro e w2 ⟨rfl, hb⟩; have HB2 := Aside0.mk hb; clear hb))
 have HK := Aside0.mk ((HB2.out.block (w.heap.size + 1) (by rw [KS.out]; omega)).trans K1.out)
 have HB := Aside0.mk (H2.out.trans (HB2.out.mono (by rw [KS.out]; omega)))
 clear HB2 H2 K1 HO
 have hnb8 : nb ≤ 8 := by omega
 go_loopg [7, 8] (nb + 1) (fun kq v7 v8 w' => ∃ (i : Nat), v8 = .int .i64 (i : Int) ∧ Aside0 (i + kq = nb + 1) ∧ Aside0 (i ≤ nb) ∧ Aside0 (Kd.R (Kd.int .u8) 5 w' w.heap.size (fun _ => True) v7 (leN i a1_1)) ∧ Aside0 (w'.heap[w.heap.size + 1]? = some (.cells #[.bool a1_0, .int .u64 a1_1, .string a1_2, .slice A1_3 l1_3.length c1_3] 29 (0, 0))) ∧ Aside0 (Below w.heap.size w w'))
 case atStart => exact ⟨0, rfl, ⟨by omega⟩, ⟨by omega⟩, ⟨Kd.R_nil _ _ _ _ _⟩, HK, HB⟩
 case round =>
  clear HK HB
  obtain ⟨i, rfl, HKK, HI, HR, HK, HB⟩ := hrel
  cases gk with
  | zero => exact absurd HKK.out (by have := HI.out; omega)
  | succ k1 =>
   by_cases c2 : (i : Int) < (nb : Int)
   ·have c2b : decide ((i : Int) < (nb : Int)) = true := decide_eq_true c2
    have r1 : wr.cell? ⟨w.heap.size + 1, 1, none⟩ = some (.int .u64 a1_1) := (blk_cell HK.out 1).trans rfl
    go_wp2_with (first | ((with_reducible refine gate_builtin (b := .append) (xs := #[.tmp 23, .tmp 30]) rfl ?_); at_builtin; refine Kd.R_append (Kd.int .u8) (w0 := w) w.heap.size rfl (.tmp 23) (.tmp 30) 23 5 (.int .u8 0) 1 rfl Tryz.underlying23 info5 rfl (by decide) (by omega) u7 (leN i a1_1) (a1_1 / 2 ^ (8 * i) % 256) [.int .u8 (a1_1 / 2 ^ (8 * i) % 256)] (fun _ => True) (fun _ => False) rfl (by first | (go_simp; done) | (go_simp; rfl)) ?aP (fun _ hk => hk.elim) ?aF ?aO ?aB ?aS ?aL ?_; (case aP => exact rfl); (case aB => exact HB.out); (case aF => exact (fun _ _ => trivial)); (case aO => exact HR.out); (case aS => exact HB.out.size); (case aL => rw [leN_len]; omega); intro v1 w1 ho hb hg hat; have hk1 := blk_grown (g := w.heap.size + 1) HK.out hg (Kd.R_ne HR.out HK.out (by decide)); rw [← leN_step] at ho; have n0_ := Aside0.mk ho; have n1_ := Aside0.mk hb; have n2_ := Aside0.mk hk1; clear ho hb hg hat hk1))
    go_roundg k1
    case measure => have := HKK.out; omega
    case rel => exact ⟨i + 1, (by simp), ⟨by have := HKK.out; omega⟩, ⟨by omega⟩, n0_, n2_, n1_⟩
   ·have c2b : decide ((i : Int) < (nb : Int)) = false := decide_eq_false c2
    go_wp2
    go_ret
    have hi : i = nb := by have := HI.out; omega
    subst hi
    exact ⟨_, rfl, HR.out, HB.out⟩

theorem leN_four (x : Int) : leN 4 x = [x % 256, x / 256 % 256, x / 65536 % 256, x / 16777216 % 256] := by
 simp [leN, List.range_succ]
/-- Numbers of 32 bits, that lie in 64. -/
def spec_PlainBytes.f (a0_0 : Int) (a0_1 : Int) (a0_2 : Bool) (a0_3 : Int) (a0_4 : Int) (a0_5 : Int) (a0_6 : ByteArray) (a0_7 : Bool) (l0_8 : List Int) (l0_9 : List Int) (a1_0 : Bool) (a1_1 : Int) (a1_2 : ByteArray) (l1_3 : List (S29)) : Option (List Int) := (spec_OneBits.f 3 a0_0 a0_1 a0_2 a0_3 a0_4 a0_5 a0_6 a0_7 l0_8 l0_9).bind fun b => if b.1 = 32 ∧ 0 ≤ a1_1 ∧ a1_1 < 18446744073709551616 then some (leN 4 a1_1) else none
theorem spec_PlainBytes.calls (a0_0 : Int) (a0_1 : Int) (a0_2 : Bool) (a0_3 : Int) (a0_4 : Int) (a0_5 : Int) (a0_6 : ByteArray) (a0_7 : Bool) (A0_8 : Option Addr) (c0_8 : Nat) (l0_8 : List Int) (A0_9 : Option Addr) (c0_9 : Nat) (l0_9 : List Int) (a1_0 : Bool) (a1_1 : Int) (a1_2 : ByteArray) (A1_3 : Option Addr) (c1_3 : Nat) (l1_3 : List (S29)) (r : List Int) (w : World) (hr0_8 : Kd.C (Kd.int .i64) w A0_8 l0_8.length l0_8) (hc0_8 : l0_8.length ≤ c0_8) (hr0_9 : Kd.C (Kd.int .i64) w A0_9 l0_9.length l0_9) (hc0_9 : l0_9.length ≤ c0_9) (hr1_3 : Kd.C k29 w A1_3 l1_3.length l1_3) (hc1_3 : l1_3.length ≤ c1_3) (h : spec_PlainBytes.f a0_0 a0_1 a0_2 a0_3 a0_4 a0_5 a0_6 a0_7 l0_8 l0_9 a1_0 a1_1 a1_2 l1_3 = some r) :
  Calls Tryz.prog 25 #[.agg #[.int .i64 a0_0, .int .i64 a0_1, .bool a0_2, .int .i64 a0_3, .int .i64 a0_4, .int .i64 a0_5, .string a0_6, .bool a0_7, .slice A0_8 l0_8.length c0_8, .slice A0_9 l0_9.length c0_9], .agg #[.bool a1_0, .int .u64 a1_1, .string a1_2, .slice A1_3 l1_3.length c1_3]] w fun e w' => ∃ v0_ : Value, e = .returned (v0_) ∧ Kd.R (Kd.int .u8) 5 w' w.heap.size (fun _ => True) v0_ r ∧ Below w.heap.size w w' := by
 unfold spec_PlainBytes.f at h
 cases hb : spec_OneBits.f 3 a0_0 a0_1 a0_2 a0_3 a0_4 a0_5 a0_6 a0_7 l0_8 l0_9 with
 | none => rw [hb] at h; cases h
 | some b =>
  rw [hb] at h
  obtain ⟨b1, b2⟩ := b
  change (if b1 = 32 ∧ 0 ≤ a1_1 ∧ a1_1 < 18446744073709551616 then some (leN 4 a1_1) else none) = some r at h
  by_cases c : b1 = 32 ∧ 0 ≤ a1_1 ∧ a1_1 < 18446744073709551616
  ·rw [if_pos c] at h
   cases h
   obtain ⟨rfl, hx0, hx1⟩ := c
   exact pb_num 4 b2 a0_0 a0_1 a0_2 a0_3 a0_4 a0_5 a0_6 a0_7 A0_8 c0_8 l0_8 A0_9 c0_9 l0_9 a1_0 a1_1 a1_2 A1_3 c1_3 l1_3 w hr0_8 hc0_8 hr0_9 hc0_9 hr1_3 hc1_3 (.inl rfl) hx0 hx1 hb
  ·rw [if_neg c] at h
   cases h
end Go.Proofs.YtiieljnllgeoeaaGreat.Q
