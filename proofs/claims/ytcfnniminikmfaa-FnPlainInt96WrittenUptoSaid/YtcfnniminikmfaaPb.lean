/- spec.PlainBytes. -/
import Derived.Test.YtcfnniminikmfaaFg
namespace Go.Proofs.Ytcfnniminikmfaa.Q
open Go.RowKit Go.Proofs.YtcfnniminikmfaaW.PrintWords Go.Proofs.YtcfnniminikmfaaW.PrintLast Go.Proofs.YtcfnniminikmfaaW.PrintMore
set_option linter.unusedVariables false
set_option linter.unusedSimpArgs false
/-- n bytes, the lowest first. -/
def leN (n : Nat) (x : Int) : List Int := (List.range n).map fun i => x / 2 ^ (8 * i) % 256
theorem leN_len (n : Nat) (x : Int) : (leN n x).length = n := by simp [leN]
theorem leN_step (n : Nat) (x : Int) : leN (n + 1) x = leN n x ++ [x / 2 ^ (8 * n) % 256] := by simp [leN, List.range_succ]
def tyV (a0 a1 : Int) (a2 : Bool) (a3 a4 a5 : Int) (a6 : ByteArray) (a7 : Bool) (A8 : Option Addr) (n8 c8 : Nat) (A9 : Option Addr) (n9 c9 : Nat) : Array Value :=
  #[.int .i64 a0, .int .i64 a1, .bool a2, .int .i64 a3, .int .i64 a4, .int .i64 a5, .string a6, .bool a7, .slice A8 n8 c8, .slice A9 n9 c9]
set_option maxHeartbeats 8000000 in
set_option maxRecDepth 100000 in
theorem pb_num (nb : Nat) (s : Bool) (a0_0 : Int) (a0_1 : Int) (a0_2 : Bool) (a0_3 : Int) (a0_4 : Int) (a0_5 : Int) (a0_6 : ByteArray) (a0_7 : Bool) (A0_8 : Option Addr) (c0_8 : Nat) (l0_8 : List Int) (A0_9 : Option Addr) (c0_9 : Nat) (l0_9 : List Int) (a1_0 : Bool) (a1_1 : Int) (a1_2 : ByteArray) (A1_3 : Option Addr) (c1_3 : Nat) (l1_3 : List (S29)) (w : World) (hr0_8 : Kd.C (Kd.int .i64) w A0_8 l0_8.length l0_8) (hc0_8 : l0_8.length ≤ c0_8) (hr0_9 : Kd.C (Kd.int .i64) w A0_9 l0_9.length l0_9) (hc0_9 : l0_9.length ≤ c0_9) (hr1_3 : Kd.C k29 w A1_3 l1_3.length l1_3) (hc1_3 : l1_3.length ≤ c1_3)
    (hnb : nb = 4 ∨ nb = 8) (hx0 : 0 ≤ a1_1) (hx1 : a1_1 < 18446744073709551616)
    (h : spec_OneBits.f 3 a0_0 a0_1 a0_2 a0_3 a0_4 a0_5 a0_6 a0_7 l0_8 l0_9 = some (8 * (nb : Int), s)) :
    Calls Try.prog 27 #[.agg #[.int .i64 a0_0, .int .i64 a0_1, .bool a0_2, .int .i64 a0_3, .int .i64 a0_4, .int .i64 a0_5, .string a0_6, .bool a0_7, .slice A0_8 l0_8.length c0_8, .slice A0_9 l0_9.length c0_9], .agg #[.bool a1_0, .int .u64 a1_1, .string a1_2, .slice A1_3 l1_3.length c1_3]] w fun e w' => ∃ v0_ : Value, e = .returned v0_ ∧ Kd.R (Kd.int .u8) 5 w' w.heap.size (fun _ => True) v0_ (leN nb a1_1) ∧ Below w.heap.size w w' := by
  have h2 : Below w.heap.size w ((w.alloc (.cells #[.int .i64 a0_0, .int .i64 a0_1, .bool a0_2, .int .i64 a0_3, .int .i64 a0_4, .int .i64 a0_5, .string a0_6, .bool a0_7, .slice A0_8 l0_8.length c0_8, .slice A0_9 l0_9.length c0_9] 35)).alloc (.cells #[.bool a1_0, .int .u64 a1_1, .string a1_2, .slice A1_3 l1_3.length c1_3] 29)) := below_alloc (below_alloc (Below.refl _ _) _) _
  have k1 : ((w.alloc (.cells #[.int .i64 a0_0, .int .i64 a0_1, .bool a0_2, .int .i64 a0_3, .int .i64 a0_4, .int .i64 a0_5, .string a0_6, .bool a0_7, .slice A0_8 l0_8.length c0_8, .slice A0_9 l0_9.length c0_9] 35)).alloc (.cells #[.bool a1_0, .int .u64 a1_1, .string a1_2, .slice A1_3 l1_3.length c1_3] 29)).heap[w.heap.size + 1]? = some (.cells #[.bool a1_0, .int .u64 a1_1, .string a1_2, .slice A1_3 l1_3.length c1_3] 29 (0, 0)) := by
    have h := blk_new (w.alloc (.cells #[.int .i64 a0_0, .int .i64 a0_1, .bool a0_2, .int .i64 a0_3, .int .i64 a0_4, .int .i64 a0_5, .string a0_6, .bool a0_7, .slice A0_8 l0_8.length c0_8, .slice A0_9 l0_9.length c0_9] 35)) (.cells #[.bool a1_0, .int .u64 a1_1, .string a1_2, .slice A1_3 l1_3.length c1_3] 29)
    simpa using h
  have ks : ((w.alloc (.cells #[.int .i64 a0_0, .int .i64 a0_1, .bool a0_2, .int .i64 a0_3, .int .i64 a0_4, .int .i64 a0_5, .string a0_6, .bool a0_7, .slice A0_8 l0_8.length c0_8, .slice A0_9 l0_9.length c0_9] 35)).alloc (.cells #[.bool a1_0, .int .u64 a1_1, .string a1_2, .slice A1_3 l1_3.length c1_3] 29)).heap.size = w.heap.size + 2 := by simp
  have HO := Aside0.mk (spec_OneBits.calls 3 a0_0 a0_1 a0_2 a0_3 a0_4 a0_5 a0_6 a0_7 A0_8 c0_8 l0_8 A0_9 c0_9 l0_9 (8 * (nb : Int)) s _ (Kd.C_below hr0_8 h2) hc0_8 (Kd.C_below hr0_9 h2) hc0_9 h)
  have H2 := Aside0.mk h2
  have K1 := Aside0.mk k1
  have KS := Aside0.mk ks
  have g1 : decide (8 * (nb : Int) > 0) = true := by simp; omega
  have g2 : Int.tdiv (8 * (nb : Int)) 8 = (nb : Int) := by rcases hnb with rfl | rfl <;> decide
  clear h2 k1 ks h hr0_8 hr0_9 hr1_3
  go_enter Try.func27, Try.ntmps27
  go_wp2_with (first | (go_at_call 51; refine HO.out.mono ?_; rintro e w2 ⟨rfl, hb⟩; have HB2 := Aside0.mk hb; clear hb))
  have HK := Aside0.mk ((HB2.out.block (w.heap.size + 1) (by rw [KS.out]; omega)).trans K1.out)
  have HB := Aside0.mk (H2.out.trans (HB2.out.mono (by rw [KS.out]; omega)))
  clear HB2 H2 K1 HO
  have hnb8 : nb ≤ 8 := by omega
  go_loopg [7, 8] (nb + 1) (fun kq v7 v8 w' => ∃ (i : Nat), v8 = .int .i64 (i : Int) ∧ Aside0 (i + kq = nb + 1) ∧ Aside0 (i ≤ nb) ∧ Aside0 (Kd.R (Kd.int .u8) 5 w' w.heap.size (fun _ => True) v7 (leN i a1_1)) ∧ Aside0 (w'.heap[w.heap.size + 1]? = some (.cells #[.bool a1_0, .int .u64 a1_1, .string a1_2, .slice A1_3 l1_3.length c1_3] 29 (0, 0))) ∧ Aside0 (Below w.heap.size w w'))
  case atStart => exact ⟨0, rfl, ⟨by omega⟩, ⟨by omega⟩, ⟨Kd.R_nil _ _ _ _ _⟩, HK, HB⟩
  case round =>
    clear HK HB
    obtain ⟨i, rfl, HKK, HI, HR, HK, HB⟩ := hrel
    cases gk with
    | zero => exact absurd HKK.out (by have := HI.out; omega)
    | succ k1 =>
      by_cases c2 : (i : Int) < (nb : Int)
      · have c2b : decide ((i : Int) < (nb : Int)) = true := decide_eq_true c2
        have r1 : wr.cell? ⟨w.heap.size + 1, 1, none⟩ = some (.int .u64 a1_1) := (blk_cell HK.out 1).trans rfl
        go_wp2_with (first | ((with_reducible refine gate_builtin (b := .append) (xs := #[.tmp 23, .tmp 30]) rfl ?_); at_builtin; refine Kd.R_append (Kd.int .u8) (w0 := w) w.heap.size rfl (.tmp 23) (.tmp 30) 23 5 (.int .u8 0) 1 rfl Try.underlying23 info5 rfl (by decide) (by omega) u7 (leN i a1_1) (a1_1 / 2 ^ (8 * i) % 256) [.int .u8 (a1_1 / 2 ^ (8 * i) % 256)] (fun _ => True) (fun _ => False) rfl (by first | (go_simp; done) | (go_simp; rfl)) ?aP (fun _ hk => hk.elim) ?aF ?aO ?aB ?aS ?aL ?_; (case aP => exact rfl); (case aB => exact HB.out); (case aF => exact (fun _ _ => trivial)); (case aO => exact HR.out); (case aS => exact HB.out.size); (case aL => rw [leN_len]; omega); intro v1 w1 ho hb hg hat; have hk1 := blk_grown (g := w.heap.size + 1) HK.out hg (Kd.R_ne HR.out HK.out (by decide)); rw [← leN_step] at ho; have n0_ := Aside0.mk ho; have n1_ := Aside0.mk hb; have n2_ := Aside0.mk hk1; clear ho hb hg hat hk1))
        go_roundg k1
        case measure => have := HKK.out; omega
        case rel => exact ⟨i + 1, (by simp), ⟨by have := HKK.out; omega⟩, ⟨by omega⟩, n0_, n2_, n1_⟩
      · have c2b : decide ((i : Int) < (nb : Int)) = false := decide_eq_false c2
        go_wp2
        go_ret
        have hi : i = nb := by have := HI.out; omega
        subst hi
        exact ⟨_, rfl, HR.out, HB.out⟩

set_option maxHeartbeats 8000000 in
set_option maxRecDepth 100000 in
theorem pb_text (s : Bool) (n : Int) (a0_0 : Int) (a0_1 : Int) (a0_2 : Bool) (a0_3 : Int) (a0_4 : Int) (a0_5 : Int) (a0_6 : ByteArray) (a0_7 : Bool) (A0_8 : Option Addr) (c0_8 : Nat) (l0_8 : List Int) (A0_9 : Option Addr) (c0_9 : Nat) (l0_9 : List Int) (a1_0 : Bool) (a1_1 : Int) (a1_2 : ByteArray) (A1_3 : Option Addr) (c1_3 : Nat) (l1_3 : List (S29)) (w : World) (hr0_8 : Kd.C (Kd.int .i64) w A0_8 l0_8.length l0_8) (hc0_8 : l0_8.length ≤ c0_8) (hr0_9 : Kd.C (Kd.int .i64) w A0_9 l0_9.length l0_9) (hc0_9 : l0_9.length ≤ c0_9) (hr1_3 : Kd.C k29 w A1_3 l1_3.length l1_3) (hc1_3 : l1_3.length ≤ c1_3)
    (h : spec_OneBits.f 3 a0_0 a0_1 a0_2 a0_3 a0_4 a0_5 a0_6 a0_7 l0_8 l0_9 = some (0, s))
    (hn : spec_OneLength.f a0_0 a0_1 a0_2 a0_3 a0_4 a0_5 a0_6 a0_7 l0_8 l0_9 = some n) (hn0 : 0 ≤ n) (hsz : a1_2.size ≤ 1048576) :
    Calls Try.prog 27 #[.agg #[.int .i64 a0_0, .int .i64 a0_1, .bool a0_2, .int .i64 a0_3, .int .i64 a0_4, .int .i64 a0_5, .string a0_6, .bool a0_7, .slice A0_8 l0_8.length c0_8, .slice A0_9 l0_9.length c0_9], .agg #[.bool a1_0, .int .u64 a1_1, .string a1_2, .slice A1_3 l1_3.length c1_3]] w fun e w' => ∃ A c, e = .returned (.slice A (bytesOf a1_2).length c) ∧ Kd.C (Kd.int .u8) w' A (bytesOf a1_2).length (bytesOf a1_2) ∧ Below w.heap.size w w' := by
  have h2 : Below w.heap.size w ((w.alloc (.cells #[.int .i64 a0_0, .int .i64 a0_1, .bool a0_2, .int .i64 a0_3, .int .i64 a0_4, .int .i64 a0_5, .string a0_6, .bool a0_7, .slice A0_8 l0_8.length c0_8, .slice A0_9 l0_9.length c0_9] 35)).alloc (.cells #[.bool a1_0, .int .u64 a1_1, .string a1_2, .slice A1_3 l1_3.length c1_3] 29)) := below_alloc (below_alloc (Below.refl _ _) _) _
  have k1 : ((w.alloc (.cells #[.int .i64 a0_0, .int .i64 a0_1, .bool a0_2, .int .i64 a0_3, .int .i64 a0_4, .int .i64 a0_5, .string a0_6, .bool a0_7, .slice A0_8 l0_8.length c0_8, .slice A0_9 l0_9.length c0_9] 35)).alloc (.cells #[.bool a1_0, .int .u64 a1_1, .string a1_2, .slice A1_3 l1_3.length c1_3] 29)).heap[w.heap.size + 1]? = some (.cells #[.bool a1_0, .int .u64 a1_1, .string a1_2, .slice A1_3 l1_3.length c1_3] 29 (0, 0)) := by
    have h := blk_new (w.alloc (.cells #[.int .i64 a0_0, .int .i64 a0_1, .bool a0_2, .int .i64 a0_3, .int .i64 a0_4, .int .i64 a0_5, .string a0_6, .bool a0_7, .slice A0_8 l0_8.length c0_8, .slice A0_9 l0_9.length c0_9] 35)) (.cells #[.bool a1_0, .int .u64 a1_1, .string a1_2, .slice A1_3 l1_3.length c1_3] 29)
    simpa using h
  have ks : ((w.alloc (.cells #[.int .i64 a0_0, .int .i64 a0_1, .bool a0_2, .int .i64 a0_3, .int .i64 a0_4, .int .i64 a0_5, .string a0_6, .bool a0_7, .slice A0_8 l0_8.length c0_8, .slice A0_9 l0_9.length c0_9] 35)).alloc (.cells #[.bool a1_0, .int .u64 a1_1, .string a1_2, .slice A1_3 l1_3.length c1_3] 29)).heap.size = w.heap.size + 2 := by simp
  have HO := Aside0.mk (spec_OneBits.calls 3 a0_0 a0_1 a0_2 a0_3 a0_4 a0_5 a0_6 a0_7 A0_8 c0_8 l0_8 A0_9 c0_9 l0_9 0 s _ (Kd.C_below hr0_8 h2) hc0_8 (Kd.C_below hr0_9 h2) hc0_9 h)
  have k0 : ((w.alloc (.cells (tyV a0_0 a0_1 a0_2 a0_3 a0_4 a0_5 a0_6 a0_7 A0_8 l0_8.length c0_8 A0_9 l0_9.length c0_9) 35)).alloc (.cells #[.bool a1_0, .int .u64 a1_1, .string a1_2, .slice A1_3 l1_3.length c1_3] 29)).heap[w.heap.size]? = some (.cells (tyV a0_0 a0_1 a0_2 a0_3 a0_4 a0_5 a0_6 a0_7 A0_8 l0_8.length c0_8 A0_9 l0_9.length c0_9) 35 (0, 0)) := blk_alloc (blk_new w _) _
  unfold tyV at k0
  have HL := Aside0.mk (fun W (hb : Below w.heap.size w W) => spec_OneLength.calls a0_0 a0_1 a0_2 a0_3 a0_4 a0_5 a0_6 a0_7 A0_8 c0_8 l0_8 A0_9 c0_9 l0_9 n W (Kd.C_below hr0_8 hb) hc0_8 (Kd.C_below hr0_9 hb) hc0_9 hn)
  have H2 := Aside0.mk h2
  have K1 := Aside0.mk k1
  have K0 := Aside0.mk k0
  have KS := Aside0.mk ks
  have hcv : ∀ W : World, (convert 9 23 (.string a1_2)).run Try.prog W = .ok (.slice (some ⟨W.heap.size, 0, none⟩) a1_2.size (grownCap W a1_2.size 0 5)) (Lib.bytesWorld W 5 a1_2) := fun W => Lib.run_convert_string_bytes (P := Try.prog) W 9 23 5 a1_2 Try.underlying9 Try.underlying23 Try.underlying5
  have hd : decide (n ≥ 0) = true := by simp; omega
  clear h2 k1 k0 ks h hn hr0_8 hr0_9 hr1_3
  go_enter Try.func27, Try.ntmps27
  go_wp2_with (first | (go_at_call 51; refine HO.out.mono ?_; rintro e w2 ⟨rfl, hb⟩; have q0 := (hb.block w.heap.size (by rw [KS.out]; omega)).trans K0.out; have q1 := (hb.block (w.heap.size + 1) (by rw [KS.out]; omega)).trans K1.out; have hbb := H2.out.trans (hb.mono (by rw [KS.out]; omega)); have HL2 := Aside0.mk (HL.out w2 hbb); have c0 : w2.cell? ⟨w.heap.size, 0, none⟩ = some (.int .i64 a0_0) := (blk_cell q0 0).trans rfl; have c1 : w2.cell? ⟨w.heap.size, 1, none⟩ = some (.int .i64 a0_1) := (blk_cell q0 1).trans rfl; have c2 : w2.cell? ⟨w.heap.size, 2, none⟩ = some (.bool a0_2) := (blk_cell q0 2).trans rfl; have c3 : w2.cell? ⟨w.heap.size, 3, none⟩ = some (.int .i64 a0_3) := (blk_cell q0 3).trans rfl; have c4 : w2.cell? ⟨w.heap.size, 4, none⟩ = some (.int .i64 a0_4) := (blk_cell q0 4).trans rfl; have c5 : w2.cell? ⟨w.heap.size, 5, none⟩ = some (.int .i64 a0_5) := (blk_cell q0 5).trans rfl; have c6 : w2.cell? ⟨w.heap.size, 6, none⟩ = some (.string a0_6) := (blk_cell q0 6).trans rfl; have c7 : w2.cell? ⟨w.heap.size, 7, none⟩ = some (.bool a0_7) := (blk_cell q0 7).trans rfl; have c8 : w2.cell? ⟨w.heap.size, 8, none⟩ = some (.slice A0_8 l0_8.length c0_8) := (blk_cell q0 8).trans rfl; have c9 : w2.cell? ⟨w.heap.size, 9, none⟩ = some (.slice A0_9 l0_9.length c0_9) := (blk_cell q0 9).trans rfl; have Q1 := Aside0.mk q1; have HB := Aside0.mk hbb; clear hb q0 q1 hbb) | (go_at_call 52; refine HL2.out.mono ?_; rintro e w3 ⟨rfl, hb⟩; have q2 := (blk_below Q1.out hb); have d2 : w3.cell? ⟨w.heap.size + 1, 2, none⟩ = some (.string a1_2) := (blk_cell q2 2).trans rfl; have HB3 := Aside0.mk (HB.out.trans (hb.mono HB.out.size)); clear hb q2))
  go_ret
  refine ⟨some ⟨w3.heap.size, 0, none⟩, grownCap w3 a1_2.size 0 5, ?_, ?_, bytes_below HB3.out HB3.out.size _ _⟩
  · rw [bytesOf_length]; rfl
  · rw [bytesOf_length]
    exact Kd.C_of_reads (enc := Value.int .u8) (d := (0 : Int)) (h1 := fun _ => rfl) (bytes_reads w3 5 a1_2 (by omega))
theorem below_alloc2 {B : Nat} {w W : World} (h : Below B w W) (hB : B ≤ W.heap.size) (o : Obj) : Below B w (W.alloc o) := h.trans ((below_alloc (Below.refl _ _) o).mono hB)
set_option maxHeartbeats 8000000 in
set_option maxRecDepth 100000 in
theorem pb_len (s : Bool) (n : Int) (a0_0 : Int) (a0_1 : Int) (a0_2 : Bool) (a0_3 : Int) (a0_4 : Int) (a0_5 : Int) (a0_6 : ByteArray) (a0_7 : Bool) (A0_8 : Option Addr) (c0_8 : Nat) (l0_8 : List Int) (A0_9 : Option Addr) (c0_9 : Nat) (l0_9 : List Int) (a1_0 : Bool) (a1_1 : Int) (a1_2 : ByteArray) (A1_3 : Option Addr) (c1_3 : Nat) (l1_3 : List (S29)) (w : World) (hr0_8 : Kd.C (Kd.int .i64) w A0_8 l0_8.length l0_8) (hc0_8 : l0_8.length ≤ c0_8) (hr0_9 : Kd.C (Kd.int .i64) w A0_9 l0_9.length l0_9) (hc0_9 : l0_9.length ≤ c0_9) (hr1_3 : Kd.C k29 w A1_3 l1_3.length l1_3) (hc1_3 : l1_3.length ≤ c1_3)
    (h : spec_OneBits.f 3 a0_0 a0_1 a0_2 a0_3 a0_4 a0_5 a0_6 a0_7 l0_8 l0_9 = some (0, s))
    (hn : spec_OneLength.f a0_0 a0_1 a0_2 a0_3 a0_4 a0_5 a0_6 a0_7 l0_8 l0_9 = some n) (hn0 : n < 0) (hsz : a1_2.size ≤ 1048576) :
    Calls Try.prog 27 #[.agg #[.int .i64 a0_0, .int .i64 a0_1, .bool a0_2, .int .i64 a0_3, .int .i64 a0_4, .int .i64 a0_5, .string a0_6, .bool a0_7, .slice A0_8 l0_8.length c0_8, .slice A0_9 l0_9.length c0_9], .agg #[.bool a1_0, .int .u64 a1_1, .string a1_2, .slice A1_3 l1_3.length c1_3]] w fun e w' => ∃ v, e = .returned v ∧ Kd.R (Kd.int .u8) 5 w' w.heap.size (fun _ => True) v (le4 (a1_2.size : Int) ++ bytesOf a1_2) ∧ Below w.heap.size w w' := by
  have h2 : Below w.heap.size w ((w.alloc (.cells #[.int .i64 a0_0, .int .i64 a0_1, .bool a0_2, .int .i64 a0_3, .int .i64 a0_4, .int .i64 a0_5, .string a0_6, .bool a0_7, .slice A0_8 l0_8.length c0_8, .slice A0_9 l0_9.length c0_9] 35)).alloc (.cells #[.bool a1_0, .int .u64 a1_1, .string a1_2, .slice A1_3 l1_3.length c1_3] 29)) := below_alloc (below_alloc (Below.refl _ _) _) _
  have k1 : ((w.alloc (.cells #[.int .i64 a0_0, .int .i64 a0_1, .bool a0_2, .int .i64 a0_3, .int .i64 a0_4, .int .i64 a0_5, .string a0_6, .bool a0_7, .slice A0_8 l0_8.length c0_8, .slice A0_9 l0_9.length c0_9] 35)).alloc (.cells #[.bool a1_0, .int .u64 a1_1, .string a1_2, .slice A1_3 l1_3.length c1_3] 29)).heap[w.heap.size + 1]? = some (.cells #[.bool a1_0, .int .u64 a1_1, .string a1_2, .slice A1_3 l1_3.length c1_3] 29 (0, 0)) := by
    have h := blk_new (w.alloc (.cells #[.int .i64 a0_0, .int .i64 a0_1, .bool a0_2, .int .i64 a0_3, .int .i64 a0_4, .int .i64 a0_5, .string a0_6, .bool a0_7, .slice A0_8 l0_8.length c0_8, .slice A0_9 l0_9.length c0_9] 35)) (.cells #[.bool a1_0, .int .u64 a1_1, .string a1_2, .slice A1_3 l1_3.length c1_3] 29)
    simpa using h
  have ks : ((w.alloc (.cells #[.int .i64 a0_0, .int .i64 a0_1, .bool a0_2, .int .i64 a0_3, .int .i64 a0_4, .int .i64 a0_5, .string a0_6, .bool a0_7, .slice A0_8 l0_8.length c0_8, .slice A0_9 l0_9.length c0_9] 35)).alloc (.cells #[.bool a1_0, .int .u64 a1_1, .string a1_2, .slice A1_3 l1_3.length c1_3] 29)).heap.size = w.heap.size + 2 := by simp
  have HO := Aside0.mk (spec_OneBits.calls 3 a0_0 a0_1 a0_2 a0_3 a0_4 a0_5 a0_6 a0_7 A0_8 c0_8 l0_8 A0_9 c0_9 l0_9 0 s _ (Kd.C_below hr0_8 h2) hc0_8 (Kd.C_below hr0_9 h2) hc0_9 h)
  have k0 : ((w.alloc (.cells (tyV a0_0 a0_1 a0_2 a0_3 a0_4 a0_5 a0_6 a0_7 A0_8 l0_8.length c0_8 A0_9 l0_9.length c0_9) 35)).alloc (.cells #[.bool a1_0, .int .u64 a1_1, .string a1_2, .slice A1_3 l1_3.length c1_3] 29)).heap[w.heap.size]? = some (.cells (tyV a0_0 a0_1 a0_2 a0_3 a0_4 a0_5 a0_6 a0_7 A0_8 l0_8.length c0_8 A0_9 l0_9.length c0_9) 35 (0, 0)) := blk_alloc (blk_new w _) _
  unfold tyV at k0
  have HL := Aside0.mk (fun W (hb : Below w.heap.size w W) => spec_OneLength.calls a0_0 a0_1 a0_2 a0_3 a0_4 a0_5 a0_6 a0_7 A0_8 c0_8 l0_8 A0_9 c0_9 l0_9 n W (Kd.C_below hr0_8 hb) hc0_8 (Kd.C_below hr0_9 hb) hc0_9 hn)
  have H2 := Aside0.mk h2
  have K1 := Aside0.mk k1
  have K0 := Aside0.mk k0
  have KS := Aside0.mk ks
  have hd : decide (n ≥ 0) = false := by simp; omega
  clear h2 k1 k0 ks h hn hr0_8 hr0_9 hr1_3
  go_enter Try.func27, Try.ntmps27
  go_wp2_with (first | (go_at_call 51; refine HO.out.mono ?_; rintro e w2 ⟨rfl, hb⟩; have q0 := (hb.block w.heap.size (by rw [KS.out]; omega)).trans K0.out; have q1 := (hb.block (w.heap.size + 1) (by rw [KS.out]; omega)).trans K1.out; have hbb := H2.out.trans (hb.mono (by rw [KS.out]; omega)); have HL2 := Aside0.mk (HL.out w2 hbb); have c0 : w2.cell? ⟨w.heap.size, 0, none⟩ = some (.int .i64 a0_0) := (blk_cell q0 0).trans rfl; have c1 : w2.cell? ⟨w.heap.size, 1, none⟩ = some (.int .i64 a0_1) := (blk_cell q0 1).trans rfl; have c2 : w2.cell? ⟨w.heap.size, 2, none⟩ = some (.bool a0_2) := (blk_cell q0 2).trans rfl; have c3 : w2.cell? ⟨w.heap.size, 3, none⟩ = some (.int .i64 a0_3) := (blk_cell q0 3).trans rfl; have c4 : w2.cell? ⟨w.heap.size, 4, none⟩ = some (.int .i64 a0_4) := (blk_cell q0 4).trans rfl; have c5 : w2.cell? ⟨w.heap.size, 5, none⟩ = some (.int .i64 a0_5) := (blk_cell q0 5).trans rfl; have c6 : w2.cell? ⟨w.heap.size, 6, none⟩ = some (.string a0_6) := (blk_cell q0 6).trans rfl; have c7 : w2.cell? ⟨w.heap.size, 7, none⟩ = some (.bool a0_7) := (blk_cell q0 7).trans rfl; have c8 : w2.cell? ⟨w.heap.size, 8, none⟩ = some (.slice A0_8 l0_8.length c0_8) := (blk_cell q0 8).trans rfl; have c9 : w2.cell? ⟨w.heap.size, 9, none⟩ = some (.slice A0_9 l0_9.length c0_9) := (blk_cell q0 9).trans rfl; have Q1 := Aside0.mk q1; have HB := Aside0.mk hbb; clear hb q0 q1 hbb) | (go_at_call 52; refine HL2.out.mono ?_; rintro e w3 ⟨rfl, hb⟩; have q2 := (blk_below Q1.out hb); have d2 : w3.cell? ⟨w.heap.size + 1, 2, none⟩ = some (.string a1_2) := (blk_cell q2 2).trans rfl; have HB3 := Aside0.mk (HB.out.trans (hb.mono HB.out.size)); have hlt := blk_lt q2; have hown : (w3.alloc (.cells #[.int .u8 ((a1_2.size : Int) % 256), .int .u8 ((a1_2.size : Int) / 256 % 256), .int .u8 ((a1_2.size : Int) / 65536), .int .u8 ((a1_2.size : Int) / 16777216)] 5)).ownsRow w.heap.size 5 1 (.slice (some ⟨w3.heap.size, 0, none⟩) 4 4) 4 (nums .u8 [(a1_2.size : Int) % 256, (a1_2.size : Int) / 256 % 256, (a1_2.size : Int) / 65536, (a1_2.size : Int) / 16777216]) := ⟨rfl, .inr ⟨w3.heap.size, 4, _, rfl, HB3.out.size, blk_new w3 _, Nat.le_refl _, by decide, by simp, rfl⟩⟩; have HOWN := Aside0.mk hown; clear hb q2 hown) | ((with_reducible refine gate_builtin (b := .append) (xs := #[.tmp 54, .tmp 56]) rfl ?_); at_builtin; refine print_append_str (P := Try.prog) (w0 := w) w.heap.size rfl (.tmp 54) (.tmp 56) 23 9 5 rfl Try.underlying23 Try.underlying9 info5 (.slice (some ⟨w3.heap.size, 0, none⟩) 4 4) [(a1_2.size : Int) % 256, (a1_2.size : Int) / 256 % 256, (a1_2.size : Int) / 65536, (a1_2.size : Int) / 16777216] a1_2 rfl rfl HOWN.out (below_alloc2 HB3.out HB3.out.size _) (Nat.le_trans HB3.out.size (by simp)) (by show 4 + a1_2.size ≤ _; omega) ?_; intro v1 w4 ho hb hg; have RO := Aside0.mk ho; have RB := Aside0.mk hb; clear ho hb hg))
  go_ret
  refine ⟨v1, rfl, ?_, RB.out⟩
  have ro := RO.out
  have e1 : (a1_2.size : Int) / 65536 = (a1_2.size : Int) / 65536 % 256 := by omega
  have e2 : (a1_2.size : Int) / 16777216 = (a1_2.size : Int) / 16777216 % 256 := by omega
  have e : [(a1_2.size : Int) % 256, (a1_2.size : Int) / 256 % 256, (a1_2.size : Int) / 65536, (a1_2.size : Int) / 16777216] = le4 (a1_2.size : Int) := by
    unfold le4
    rw [← e1, ← e2]
  rw [e] at ro
  exact Kd.R_of_own (h1 := fun _ => rfl) (ok := fun _ => True) ro (fun _ _ => trivial)

def spec_PlainBytes.f (a0_0 : Int) (a0_1 : Int) (a0_2 : Bool) (a0_3 : Int) (a0_4 : Int) (a0_5 : Int) (a0_6 : ByteArray) (a0_7 : Bool) (l0_8 : List Int) (l0_9 : List Int) (a1_0 : Bool) (a1_1 : Int) (a1_2 : ByteArray) (l1_3 : List (S29)) : Option (List Int) :=
  match spec_OneBits.f 3 a0_0 a0_1 a0_2 a0_3 a0_4 a0_5 a0_6 a0_7 l0_8 l0_9, spec_OneLength.f a0_0 a0_1 a0_2 a0_3 a0_4 a0_5 a0_6 a0_7 l0_8 l0_9 with
  | some (b, _), some n =>
    if b = 32 ∧ 0 ≤ a1_1 ∧ a1_1 < 18446744073709551616 then some (leN 4 a1_1) else
    if b = 64 ∧ 0 ≤ a1_1 ∧ a1_1 < 18446744073709551616 then some (leN 8 a1_1) else
    if b = 0 ∧ a1_2.size ≤ 1048576 then (if 0 ≤ n then some (bytesOf a1_2) else some (le4 (a1_2.size : Int) ++ bytesOf a1_2)) else none
  | _, _ => none
theorem spec_PlainBytes.calls (a0_0 : Int) (a0_1 : Int) (a0_2 : Bool) (a0_3 : Int) (a0_4 : Int) (a0_5 : Int) (a0_6 : ByteArray) (a0_7 : Bool) (A0_8 : Option Addr) (c0_8 : Nat) (l0_8 : List Int) (A0_9 : Option Addr) (c0_9 : Nat) (l0_9 : List Int) (a1_0 : Bool) (a1_1 : Int) (a1_2 : ByteArray) (A1_3 : Option Addr) (c1_3 : Nat) (l1_3 : List (S29)) (r : List Int) (w : World) (hr0_8 : Kd.C (Kd.int .i64) w A0_8 l0_8.length l0_8) (hc0_8 : l0_8.length ≤ c0_8) (hr0_9 : Kd.C (Kd.int .i64) w A0_9 l0_9.length l0_9) (hc0_9 : l0_9.length ≤ c0_9) (hr1_3 : Kd.C k29 w A1_3 l1_3.length l1_3) (hc1_3 : l1_3.length ≤ c1_3) (h : spec_PlainBytes.f a0_0 a0_1 a0_2 a0_3 a0_4 a0_5 a0_6 a0_7 l0_8 l0_9 a1_0 a1_1 a1_2 l1_3 = some r) :
    Calls Try.prog 27 #[.agg #[.int .i64 a0_0, .int .i64 a0_1, .bool a0_2, .int .i64 a0_3, .int .i64 a0_4, .int .i64 a0_5, .string a0_6, .bool a0_7, .slice A0_8 l0_8.length c0_8, .slice A0_9 l0_9.length c0_9], .agg #[.bool a1_0, .int .u64 a1_1, .string a1_2, .slice A1_3 l1_3.length c1_3]] w fun e w' => ∃ A c, e = .returned (.slice A r.length c) ∧ Kd.C (Kd.int .u8) w' A r.length r ∧ Below w.heap.size w w' := by
  unfold spec_PlainBytes.f at h
  cases hb : spec_OneBits.f 3 a0_0 a0_1 a0_2 a0_3 a0_4 a0_5 a0_6 a0_7 l0_8 l0_9 with
  | none => rw [hb] at h; simp at h
  | some bs =>
    obtain ⟨b, s⟩ := bs
    cases hn : spec_OneLength.f a0_0 a0_1 a0_2 a0_3 a0_4 a0_5 a0_6 a0_7 l0_8 l0_9 with
    | none => rw [hb, hn] at h; simp at h
    | some n =>
      rw [hb, hn] at h
      simp only at h
      by_cases c1 : b = 32 ∧ 0 ≤ a1_1 ∧ a1_1 < 18446744073709551616
      · rw [if_pos c1] at h
        obtain rfl := Option.some.inj h
        obtain ⟨rfl, x0, x1⟩ := c1
        refine (pb_num 4 s a0_0 a0_1 a0_2 a0_3 a0_4 a0_5 a0_6 a0_7 A0_8 c0_8 l0_8 A0_9 c0_9 l0_9 a1_0 a1_1 a1_2 A1_3 c1_3 l1_3 w hr0_8 hc0_8 hr0_9 hc0_9 hr1_3 hc1_3 (.inl rfl) x0 x1 hb).mono ?_
        rintro e w' ⟨v, rfl, h1, h2⟩
        obtain ⟨A, c, rfl⟩ := Kd.R_slice h1
        exact ⟨A, c, rfl, (Kd.R_reads' h1).2.2, h2⟩
      · rw [if_neg c1] at h
        by_cases c2 : b = 64 ∧ 0 ≤ a1_1 ∧ a1_1 < 18446744073709551616
        · rw [if_pos c2] at h
          obtain rfl := Option.some.inj h
          obtain ⟨rfl, x0, x1⟩ := c2
          refine (pb_num 8 s a0_0 a0_1 a0_2 a0_3 a0_4 a0_5 a0_6 a0_7 A0_8 c0_8 l0_8 A0_9 c0_9 l0_9 a1_0 a1_1 a1_2 A1_3 c1_3 l1_3 w hr0_8 hc0_8 hr0_9 hc0_9 hr1_3 hc1_3 (.inr rfl) x0 x1 hb).mono ?_
          rintro e w' ⟨v, rfl, h1, h2⟩
          obtain ⟨A, c, rfl⟩ := Kd.R_slice h1
          exact ⟨A, c, rfl, (Kd.R_reads' h1).2.2, h2⟩
        · rw [if_neg c2] at h
          by_cases c3 : b = 0 ∧ a1_2.size ≤ 1048576
          · rw [if_pos c3] at h
            obtain ⟨rfl, hs⟩ := c3
            by_cases c4 : 0 ≤ n
            · rw [if_pos c4] at h
              obtain rfl := Option.some.inj h
              exact pb_text s n a0_0 a0_1 a0_2 a0_3 a0_4 a0_5 a0_6 a0_7 A0_8 c0_8 l0_8 A0_9 c0_9 l0_9 a1_0 a1_1 a1_2 A1_3 c1_3 l1_3 w hr0_8 hc0_8 hr0_9 hc0_9 hr1_3 hc1_3 hb hn c4 hs
            · rw [if_neg c4] at h
              obtain rfl := Option.some.inj h
              refine (pb_len s n a0_0 a0_1 a0_2 a0_3 a0_4 a0_5 a0_6 a0_7 A0_8 c0_8 l0_8 A0_9 c0_9 l0_9 a1_0 a1_1 a1_2 A1_3 c1_3 l1_3 w hr0_8 hc0_8 hr0_9 hc0_9 hr1_3 hc1_3 hb hn (by omega) hs).mono ?_
              rintro e w' ⟨v, rfl, h1, h2⟩
              obtain ⟨A, c, rfl⟩ := Kd.R_slice h1
              exact ⟨A, c, rfl, (Kd.R_reads' h1).2.2, h2⟩
          · rw [if_neg c3] at h
            cases h
end Go.Proofs.Ytcfnniminikmfaa.Q
