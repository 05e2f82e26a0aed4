/- The stream splitter of the program, walked (printed, with the call of debug.Assert put back by hand). -/
import Derived.Test.YtnjniacohbeonaaQ0
namespace Go.Proofs.Ytnjniacohbeonaa.Q
open Go.RowKit Go.Proofs.YtnjniacohbeonaaW.PrintWords Go.Proofs.YtnjniacohbeonaaW.PrintLast Go.Proofs.YtnjniacohbeonaaW.PrintMore
attribute [local go_sem] max2_int min2_int max_two min_two max_three min_three max_four min_four
set_option linter.unusedVariables false
set_option linter.unusedSimpArgs false

set_option maxHeartbeats 8000000 in
set_option maxRecDepth 100000 in
theorem debug_Assert.calls (b : Bool) (v : Value) (w : World) : Calls Try.prog 87 #[.bool b, v] w fun e w' => e = .returned (.tuple #[]) ∧ Drawn0 w w' := by
  go_enter Try.func87, Try.ntmps87
  go_wp2
  first | go_end0 | ((try simp only [Exit.inBlock, Exit.then]); refine bodyPost_ret (results_none rfl _ _ _) rfl ?_)
  exact ⟨by first | rfl | (simp; done) | (simp [*]; done), by repeat (first | exact Drawn0.refl _ | apply Drawn0.step)⟩

/-! ### encoding_encodeByteStreamSplitWidth2: function 74 -/
def encoding_encodeByteStreamSplitWidth2.l0 : Nat → List Int → List Int → Int → Int → Option (List Int)
  | 0, _, _, _, _ => none
  | k + 1, x0, x1, x4, x5 => if x5 < x4 then (if 0 ≤ (wrap64 (2 * x5)) then (if (wrap64 (2 * x5)) < (x1.length : Int) then (if 0 ≤ x5 then (if x5 < (x0.length : Int) then (if 0 ≤ (wrap64 ((wrap64 (2 * x5)) + 1)) then (if (wrap64 ((wrap64 (2 * x5)) + 1)) < (x1.length : Int) then (if 0 ≤ (wrap64 (x4 + x5)) then (if (wrap64 (x4 + x5)) < (x0.length : Int) then (encoding_encodeByteStreamSplitWidth2.l0 k ((x0.set (x5 : Int).toNat (rd x1 (wrap64 (2 * x5)))).set ((wrap64 (x4 + x5)) : Int).toNat (rd x1 (wrap64 ((wrap64 (2 * x5)) + 1)))) x1 x4 (wrap64 (x5 + 1))) else (none)) else (none)) else (none)) else (none)) else (none)) else (none)) else (none)) else (none)) else (some x0)
def encoding_encodeByteStreamSplitWidth2.f (k : Nat) (l0 : List Int) (l1 : List Int) : Option (List Int) := encoding_encodeByteStreamSplitWidth2.l0 k l0 l1 (wrap64 ((l1.length : Int) / 2)) 0
theorem encoding_encodeByteStreamSplitWidth2.mono_l : ∀ k, (∀ y0 y1 y2 y3, LeO (encoding_encodeByteStreamSplitWidth2.l0 k y0 y1 y2 y3) (encoding_encodeByteStreamSplitWidth2.l0 (k + 1) y0 y1 y2 y3))
  | 0 => fun _ _ _ _ r h => by simp [encoding_encodeByteStreamSplitWidth2.l0] at h
  | k + 1 => by
    have ih0 := encoding_encodeByteStreamSplitWidth2.mono_l k
    · intro y0 y1 y2 y3
      unfold encoding_encodeByteStreamSplitWidth2.l0
      repeat' first
      | (with_reducible exact ih0 _ _ _ _)
      | (with_reducible exact LeO.refl _)
      | (with_reducible exact LeO.none _)
      | (with_reducible refine LeO.ite ?_ ?_)
      | (with_reducible refine LeO.bind ?_ (fun _ => ?_))
      | exact ih0 _ _ _ _
      | exact LeO.none _
      | refine LeO.ite ?_ ?_
      | refine LeO.bind ?_ (fun _ => ?_)
theorem encoding_encodeByteStreamSplitWidth2.mono : ∀ a0 a1 k, LeO (encoding_encodeByteStreamSplitWidth2.f k a0 a1) (encoding_encodeByteStreamSplitWidth2.f (k + 1) a0 a1) := by
  intro a0 a1 k
  have ih0 := encoding_encodeByteStreamSplitWidth2.mono_l k
  unfold encoding_encodeByteStreamSplitWidth2.f
  repeat' first
      | (with_reducible exact ih0 _ _ _ _)
      | (with_reducible exact LeO.refl _)
      | (with_reducible exact LeO.none _)
      | (with_reducible refine LeO.ite ?_ ?_)
      | (with_reducible refine LeO.bind ?_ (fun _ => ?_))
      | exact ih0 _ _ _ _
      | exact LeO.none _
      | refine LeO.ite ?_ ?_
      | refine LeO.bind ?_ (fun _ => ?_)
set_option maxHeartbeats 8000000 in
set_option maxRecDepth 100000 in
theorem encoding_encodeByteStreamSplitWidth2.calls (k : Nat) (P0_ : Nat → Prop) (u9000_ : Value) (l0 : List Int) (A1 : Option Addr) (c1 : Nat) (l1 : List Int) (r : List Int) (w0 w : World) (hB : Below w0.heap.size w0 w) (ho0 : Kd.R (Kd.int .u8) 5 w w0.heap.size P0_ u9000_ l0) (hr1 : ∀ W_, Kept w W_ (fun k_ => P0_ k_) → Kd.C (Kd.int .u8) W_ A1 l1.length l1) (hc1 : l1.length ≤ c1) (h : encoding_encodeByteStreamSplitWidth2.f k l0 l1 = some r) :
    Calls Try.prog 74 #[u9000_, .slice A1 l1.length c1] w fun e w' => e = .returned (.tuple #[]) ∧ Kd.R (Kd.int .u8) 5 w' w0.heap.size (fun k_ => (P0_ k_ ∨ w.heap.size ≤ k_)) u9000_ r ∧ Below w0.heap.size w0 w' ∧ Kept w w' (fun k_ => P0_ k_) := by
  have HO0 := Aside0.mk (show Kd.R (Kd.int .u8) 5 w w0.heap.size (fun k_ => (P0_ k_ ∨ w.heap.size ≤ k_)) u9000_ l0 from Kd.R_mono ho0 (fun k_ hk => (.inl hk)))
  have HR1 := Aside0.mk hr1
  have HC1 := Aside0.mk hc1
  clear hr1 hc1
  have HK := Aside0.mk (Kept.refl w (fun k_ => P0_ k_))
  have HW0 := Aside0.mk hB.size
  have HB := Aside0.mk hB
  clear hB
  have H : (encoding_encodeByteStreamSplitWidth2.l0 k l0 l1 (wrap64 ((l1.length : Int) / 2)) 0) = some r := h
  clear h
  have H' := Aside0.mk H
  clear H
  obtain ⟨Ao3, co3, eo3⟩ := Kd.R_slice HO0.out
  subst eo3
  go_enter Try.func74, Try.ntmps74
  go_wp2_with (first | (go_at_call 87; (with_reducible refine (debug_Assert.calls _ _ _).mono ?_); rintro e w' ⟨rfl, ⟨nd, rfl⟩⟩) | ((with_reducible refine gate_callee (f := 87) rfl ?_); refine goesL_ _ rfl rfl Try.func87 (by kernel_rfl) rfl _ rfl (by (try simp only [List.map_toArray, List.map_cons, List.map_nil]); first | done | rfl) ?_; (with_reducible refine (debug_Assert.calls _ _ _).mono ?_); rintro e w' ⟨rfl, ⟨nd, rfl⟩⟩; refine ⟨_, rfl, ?_⟩))
  go_loopg [5] k (fun kq v5 w' => ∃ (x0_1 : List Int) (x5_1 : Int), v5 = .int .i64 x5_1 ∧ Aside0 (encoding_encodeByteStreamSplitWidth2.l0 kq x0_1 l1 (wrap64 ((l1.length : Int) / 2)) x5_1 = some r) ∧ Aside0 (kq ≤ k) ∧ Aside0 (Kd.R (Kd.int .u8) 5 w' w0.heap.size (fun k_ => (P0_ k_ ∨ w.heap.size ≤ k_)) (.slice Ao3 l0.length co3) x0_1) ∧ Aside0 (Kept w w' (fun k_ => P0_ k_)) ∧ Aside0 (Below w0.heap.size w0 w'))
  case atStart => exact ⟨(l0), (0), (by first | rfl | (simp; done) | (simp [*]; done)), H', ⟨Nat.le_refl _⟩, ⟨by (with_reducible repeat (first | apply Kd.R_alloc | apply Kd.R_drewN | apply Kd.R_drew)); exact HO0.out⟩, ⟨by repeat (first | (with_reducible first | exact HK.out | apply Kept.alloc | apply Kept.drewN | apply Kept.drew) | exact HK.out)⟩, ⟨by repeat (first | (with_reducible first | exact HB.out | apply below_alloc | apply pw_below_drewN | apply below_drew1) | exact HB.out)⟩⟩
  case round =>
    clear H'
    try clear c1
    try clear p2
    obtain ⟨x0_1, x5_1, rfl, HA, HK1, HO_0, HK, HB⟩ := hrel
    have hl0_1 := (Kd.R_reads' HO_0.out).1
    rw [hl0_1] at HO_0
    (try simp only [hl0_1])
    cases gk with
    | zero => exact absurd HA.out (by simp [encoding_encodeByteStreamSplitWidth2.l0])
    | succ k1 =>
      have H := HA.out
      clear HA
      simp only [encoding_encodeByteStreamSplitWidth2.l0] at H
      by_cases c4 : x5_1 < (wrap64 ((l1.length : Int) / 2))
      · rw [if_pos c4] at H
        have c4b0 : decide (x5_1 < (wrap64 ((l1.length : Int) / 2))) = true := decide_eq_true c4
        clear c4
        obtain ⟨ji5, hji5⟩ : ∃ j_ : Int, (wrap64 (2 * x5_1)) = j_ := ⟨_, rfl⟩
        replace H : (if 0 ≤ (ji5) then (if (ji5) < (l1.length : Int) then (if 0 ≤ x5_1 then (if x5_1 < (x0_1.length : Int) then (if 0 ≤ (wrap64 ((ji5) + 1)) then (if (wrap64 ((ji5) + 1)) < (l1.length : Int) then (if 0 ≤ (wrap64 ((wrap64 ((l1.length : Int) / 2)) + x5_1)) then (if (wrap64 ((wrap64 ((l1.length : Int) / 2)) + x5_1)) < (x0_1.length : Int) then (encoding_encodeByteStreamSplitWidth2.l0 k1 ((x0_1.set (x5_1 : Int).toNat (rd l1 (ji5))).set ((wrap64 ((wrap64 ((l1.length : Int) / 2)) + x5_1)) : Int).toNat (rd l1 (wrap64 ((ji5) + 1)))) l1 (wrap64 ((l1.length : Int) / 2)) (wrap64 (x5_1 + 1))) else (none)) else (none)) else (none)) else (none)) else (none)) else (none)) else (none)) else (none)) = some r := by first | (rw [hji5] at H; exact H) | (simp only [hji5] at H ⊢; exact H)
        have hji5w : (IntKind.i64.wrap (2 * x5_1)) = ji5 := (i64_w _).trans hji5
        by_cases c6 : 0 ≤ (ji5)
        · rw [if_pos c6] at H
          have c6b0 : decide (0 ≤ (ji5)) = true := decide_eq_true c6
          clear c6
          by_cases c7 : (ji5) < (l1.length : Int)
          · rw [if_pos c7] at H
            have c7b0 : decide ((ji5) < (l1.length : Int)) = true := decide_eq_true c7
            clear c7
            by_cases c8 : 0 ≤ x5_1
            · rw [if_pos c8] at H
              have c8b0 : decide (0 ≤ x5_1) = true := decide_eq_true c8
              clear c8
              by_cases c9 : x5_1 < (x0_1.length : Int)
              · rw [if_pos c9] at H
                have c9b0 : decide (x5_1 < (x0_1.length : Int)) = true := decide_eq_true c9
                clear c9
                obtain ⟨y102, hy102⟩ : ∃ y_ : List Int, y_ = (x0_1.set (x5_1 : Int).toNat (rd l1 (ji5))) := ⟨_, rfl⟩
                replace H : (if 0 ≤ (wrap64 ((ji5) + 1)) then (if (wrap64 ((ji5) + 1)) < (l1.length : Int) then (if 0 ≤ (wrap64 ((wrap64 ((l1.length : Int) / 2)) + x5_1)) then (if (wrap64 ((wrap64 ((l1.length : Int) / 2)) + x5_1)) < (x0_1.length : Int) then (encoding_encodeByteStreamSplitWidth2.l0 k1 (y102.set ((wrap64 ((wrap64 ((l1.length : Int) / 2)) + x5_1)) : Int).toNat (rd l1 (wrap64 ((ji5) + 1)))) l1 (wrap64 ((l1.length : Int) / 2)) (wrap64 (x5_1 + 1))) else (none)) else (none)) else (none)) else (none)) = some r := by first | (rw [hy102]; with_reducible exact H) | (have H2_ := (Option.bind_some _ _).symm.trans H; rw [hy102]; with_reducible exact H2_) | (have H2_ := (Option.bind_some _ _).symm.trans H; with_reducible exact H2_) | with_reducible exact H | (rw [hy102]; exact H) | exact H
                have Ny102 := Aside0.mk hy102
                clear hy102
                obtain ⟨ji11, hji11⟩ : ∃ j_ : Int, (wrap64 ((ji5) + 1)) = j_ := ⟨_, rfl⟩
                replace H : (if 0 ≤ (ji11) then (if (ji11) < (l1.length : Int) then (if 0 ≤ (wrap64 ((wrap64 ((l1.length : Int) / 2)) + x5_1)) then (if (wrap64 ((wrap64 ((l1.length : Int) / 2)) + x5_1)) < (x0_1.length : Int) then (encoding_encodeByteStreamSplitWidth2.l0 k1 (y102.set ((wrap64 ((wrap64 ((l1.length : Int) / 2)) + x5_1)) : Int).toNat (rd l1 (ji11))) l1 (wrap64 ((l1.length : Int) / 2)) (wrap64 (x5_1 + 1))) else (none)) else (none)) else (none)) else (none)) = some r := by first | (rw [hji11] at H; exact H) | (simp only [hji11] at H ⊢; exact H)
                have hji11w : (IntKind.i64.wrap ((ji5) + 1)) = ji11 := (i64_w _).trans hji11
                by_cases c12 : 0 ≤ (ji11)
                · rw [if_pos c12] at H
                  have c12b0 : decide (0 ≤ (ji11)) = true := decide_eq_true c12
                  clear c12
                  by_cases c13 : (ji11) < (l1.length : Int)
                  · rw [if_pos c13] at H
                    have c13b0 : decide ((ji11) < (l1.length : Int)) = true := decide_eq_true c13
                    clear c13
                    obtain ⟨ji14, hji14⟩ : ∃ j_ : Int, (wrap64 ((wrap64 ((l1.length : Int) / 2)) + x5_1)) = j_ := ⟨_, rfl⟩
                    replace H : (if 0 ≤ (ji14) then (if (ji14) < (x0_1.length : Int) then (encoding_encodeByteStreamSplitWidth2.l0 k1 (y102.set ((ji14) : Int).toNat (rd l1 (ji11))) l1 (wrap64 ((l1.length : Int) / 2)) (wrap64 (x5_1 + 1))) else (none)) else (none)) = some r := by first | (rw [hji14] at H; exact H) | (simp only [hji14] at H ⊢; exact H)
                    have hji14w : (IntKind.i64.wrap ((wrap64 ((l1.length : Int) / 2)) + x5_1)) = ji14 := (i64_w _).trans hji14
                    by_cases c15 : 0 ≤ (ji14)
                    · rw [if_pos c15] at H
                      have c15b0 : decide (0 ≤ (ji14)) = true := decide_eq_true c15
                      clear c15
                      by_cases c16 : (ji14) < (x0_1.length : Int)
                      · rw [if_pos c16] at H
                        have c16b0 : decide ((ji14) < (x0_1.length : Int)) = true := decide_eq_true c16
                        clear c16
                        obtain ⟨y104, hy104⟩ : ∃ y_ : List Int, y_ = (y102.set ((ji14) : Int).toNat (rd l1 (ji11))) := ⟨_, rfl⟩
                        replace H : (encoding_encodeByteStreamSplitWidth2.l0 k1 y104 l1 (wrap64 ((l1.length : Int) / 2)) (wrap64 (x5_1 + 1))) = some r := by first | (rw [hy104]; with_reducible exact H) | (have H2_ := (Option.bind_some _ _).symm.trans H; rw [hy104]; with_reducible exact H2_) | (have H2_ := (Option.bind_some _ _).symm.trans H; with_reducible exact H2_) | with_reducible exact H | (rw [hy104]; exact H) | exact H
                        have Ny104 := Aside0.mk hy104
                        clear hy104
                        have H' := Aside0.mk H
                        clear H
                        have p101 : 0 ≤ ((ji5) : Int) := of_decide_eq_true (by first | (with_reducible assumption) | assumption)
                        have q101 : (ji5) < (l1.length : Int) := of_decide_eq_true (by first | (with_reducible assumption) | assumption)
                        obtain ⟨ad101, e101, hx101_0⟩ := Kd.at_int (Kd.C_kept_now HR1.out HK.out) (ji5) p101 q101
                        cases e101
                        replace p101 := eq_true p101
                        replace q101 := eq_true q101
                        have p10 : 0 ≤ (x5_1 : Int) := of_decide_eq_true (by first | (with_reducible assumption) | assumption)
                        have q10 : (x5_1 : Int) < ((x0_1.length : Int) : Int) := of_decide_eq_true (by first | (with_reducible assumption) | assumption)
                        obtain ⟨go10, co10, eo10, gb10, gl10, cl10, HG10⟩ := Kd.R_form HO_0.out (by omega)
                        (first | cases eo10 | (injection eo10 with ea_ en_ ec_; (first | subst ea_ | (injection ea_ with ea_; subst ea_)); subst ec_; clear en_))
                        have GB10 := Aside0.mk gb10
                        have GG10 := Aside0.mk HG10
                        clear gb10 gl10 HG10
                        have HMgo10 := Aside0.mk (show (P0_ go10 ∨ w.heap.size ≤ go10) from (HO_0.out.1 _ rfl))
                        obtain ⟨hx10_0, hf10_0⟩ := Kd.R_celln 0 HO_0.out (x5_1 : Int) p10 q10
                        replace p10 := eq_true p10
                        replace q10 := eq_true q10
                        have HP18 := Kd.R_putg HO_0.out (x5_1 : Int) (rd l1 (ji5))
                        go_wp2_with (first | ((with_reducible refine gate_store (t := 5) (p := 30) rfl ?_); refine store_event (t := 5) (p := 30) (v := ?vo_w19) (w1 := (wr.setCell ⟨go10, (x5_1 : Int).toNat, none⟩ (.int .u8 (rd l1 (ji5))))) ?hg ?ho ?hn ?hr ?_; (case ho => rfl); (case hg => rfl); (case hn => rfl); (case hr => first | (go_simp; done) | (go_simp; rfl)); intro w19 hw; have hg : wr.grownBy w19 (some go10) := (by rw [hw]; exact HP18.2); have hp_ : Kd.R (Kd.int .u8) 5 w19 w0.heap.size (fun k_ => (P0_ k_ ∨ w.heap.size ≤ k_)) (.slice (some ⟨go10, 0, none⟩) x0_1.length co3) y102 := (by rw [hw, Ny102.out]; exact HP18.1); clear HP18; have n0_ := Aside0.mk (hp_); have n1_ := Aside0.mk ((by rw [hw]; exact below_set (HB.out) GB10.out : Below w0.heap.size w0 w19)); have n2_ := Aside0.mk (Kept.of_grown (S := (fun k_ => P0_ k_)) hg (by repeat (first | (with_reducible first | exact HK.out | apply Kept.alloc | apply Kept.drewN | apply Kept.drew) | exact HK.out)) (fun k_ e_ => (HO_0.out.1 k_ e_))); clear HO_0; clear HB; clear HK; have HO_0 := n0_; have HB := n1_; have HK := n2_; clear n0_ n1_ n2_; clear hg hw hp_; have p103 : 0 ≤ ((ji11) : Int) := of_decide_eq_true (by first | (with_reducible assumption) | assumption); have q103 : (ji11) < (l1.length : Int) := of_decide_eq_true (by first | (with_reducible assumption) | assumption); obtain ⟨ad103, e103, hx103_0⟩ := Kd.at_int (Kd.C_kept_now HR1.out HK.out) (ji11) p103 q103; obtain rfl : ad101 = ad103 := (by injection e103); replace p103 := eq_true p103; replace q103 := eq_true q103; have p17 : 0 ≤ ((ji14) : Int) := of_decide_eq_true (by first | (with_reducible assumption) | assumption); have q17 : ((ji14) : Int) < ((x0_1.length : Int) : Int) := of_decide_eq_true (by first | (with_reducible assumption) | assumption); obtain ⟨hx17_0, hf17_0⟩ := Kd.R_celln 0 HO_0.out ((ji14) : Int) p17 q17; replace p17 := eq_true p17; replace q17 := eq_true q17; obtain ⟨hy20_, hz20_⟩ := Kd.R_celln 0 HO_0.out ((ji14) : Int) (of_decide_eq_true (by first | (with_reducible assumption) | assumption)) (of_decide_eq_true (by first | (with_reducible assumption) | assumption)); have HP20 := Kd.R_putg HO_0.out ((ji14) : Int) (rd l1 (ji11))) | ((with_reducible refine gate_store (t := 5) (p := 40) rfl ?_); refine store_event (t := 5) (p := 40) (v := ?vo_w21) (w1 := (w19.setCell ⟨go10, ((ji14) : Int).toNat, none⟩ (.int .u8 (rd l1 (ji11))))) ?hg ?ho ?hn ?hr ?_; (case ho => rfl); (case hg => rfl); (case hn => rfl); (case hr => first | (go_simp; done) | (go_simp; rfl)); intro w21 hw; have hg : w19.grownBy w21 (some go10) := (by rw [hw]; exact HP20.2); have hp_ : Kd.R (Kd.int .u8) 5 w21 w0.heap.size (fun k_ => (P0_ k_ ∨ w.heap.size ≤ k_)) (.slice (some ⟨go10, 0, none⟩) x0_1.length co3) y104 := (by rw [hw, Ny104.out]; exact HP20.1); clear HP20; have n0_ := Aside0.mk (hp_); have n1_ := Aside0.mk ((by rw [hw]; exact below_set (HB.out) GB10.out : Below w0.heap.size w0 w21)); have n2_ := Aside0.mk (Kept.of_grown (S := (fun k_ => P0_ k_)) hg (by repeat (first | (with_reducible first | exact HK.out | apply Kept.alloc | apply Kept.drewN | apply Kept.drew) | exact HK.out)) (fun k_ e_ => (HO_0.out.1 k_ e_))); clear HO_0; clear HB; clear HK; have HO_0 := n0_; have HB := n1_; have HK := n2_; clear n0_ n1_ n2_; clear hg hw hp_))
                        (try simp only [← hl0_1])
                        go_roundg k1
                        case measure => have := HK1.out; omega
                        case rel => exact ⟨(y104), (wrap64 (x5_1 + 1)), (by first | rfl | (simp; done) | (simp [*]; done)), H', ⟨by have := HK1.out; omega⟩, ⟨by (try simp only [hl0_1]); (with_reducible repeat (first | apply Kd.R_alloc | apply Kd.R_drewN | apply Kd.R_drew)); exact HO_0.out⟩, ⟨by repeat (first | (with_reducible first | exact HK.out | apply Kept.alloc | apply Kept.drewN | apply Kept.drew) | exact HK.out)⟩, ⟨by repeat (first | (with_reducible first | exact HB.out | apply below_alloc | apply pw_below_drewN | apply below_drew1) | exact HB.out)⟩⟩
                      · rw [if_neg c16] at H
                        exact absurd H (by simp)
                    · rw [if_neg c15] at H
                      exact absurd H (by simp)
                  · rw [if_neg c13] at H
                    exact absurd H (by simp)
                · rw [if_neg c12] at H
                  exact absurd H (by simp)
              · rw [if_neg c9] at H
                exact absurd H (by simp)
            · rw [if_neg c8] at H
              exact absurd H (by simp)
          · rw [if_neg c7] at H
            exact absurd H (by simp)
        · rw [if_neg c6] at H
          exact absurd H (by simp)
      · rw [if_neg c4] at H
        have c4b0 : decide (x5_1 < (wrap64 ((l1.length : Int) / 2))) = false := decide_eq_false c4
        clear c4
        obtain rfl := Option.some.inj H
        go_wp2
        first | go_end0 | ((try simp only [Exit.inBlock, Exit.then]); refine bodyPost_ret (results_none rfl _ _ _) rfl ?_)
        exact ⟨by first | rfl | (simp [errW_none, errW_some] <;> rfl) | (simp [*, errW_none, errW_some] <;> rfl), (by first | exact (by (with_reducible repeat (first | apply Kd.R_alloc | apply Kd.R_drewN | apply Kd.R_drew)); exact HO_0.out) | (simp only [hl0_1]; exact (by (with_reducible repeat (first | apply Kd.R_alloc | apply Kd.R_drewN | apply Kd.R_drew)); exact HO_0.out))), by repeat (first | (with_reducible first | exact HB.out | apply below_alloc | apply pw_below_drewN | apply below_drew1) | exact HB.out), by repeat (first | (with_reducible first | exact HK.out | apply Kept.alloc | apply Kept.drewN | apply Kept.drew) | exact HK.out)⟩

/-! ### encoding_encodeByteStreamSplitWidth4: function 75 -/
def encoding_encodeByteStreamSplitWidth4.l0 : Nat → List Int → List Int → Int → Int → Option (List Int)
  | 0, _, _, _, _ => none
  | k + 1, x0, x1, x4, x5 => if x5 < x4 then (if 0 ≤ (wrap64 (4 * x5)) then (if (wrap64 (4 * x5)) < (x1.length : Int) then (if 0 ≤ x5 then (if x5 < (x0.length : Int) then (if 0 ≤ (wrap64 ((wrap64 (4 * x5)) + 1)) then (if (wrap64 ((wrap64 (4 * x5)) + 1)) < (x1.length : Int) then (if 0 ≤ (wrap64 (x4 + x5)) then (if (wrap64 (x4 + x5)) < (x0.length : Int) then (if 0 ≤ (wrap64 ((wrap64 (4 * x5)) + 2)) then (if (wrap64 ((wrap64 (4 * x5)) + 2)) < (x1.length : Int) then (if 0 ≤ (wrap64 ((wrap64 (x4 * 2)) + x5)) then (if (wrap64 ((wrap64 (x4 * 2)) + x5)) < (x0.length : Int) then (if 0 ≤ (wrap64 ((wrap64 (4 * x5)) + 3)) then (if (wrap64 ((wrap64 (4 * x5)) + 3)) < (x1.length : Int) then (if 0 ≤ (wrap64 ((wrap64 (x4 * 3)) + x5)) then (if (wrap64 ((wrap64 (x4 * 3)) + x5)) < (x0.length : Int) then (encoding_encodeByteStreamSplitWidth4.l0 k ((((x0.set (x5 : Int).toNat (rd x1 (wrap64 (4 * x5)))).set ((wrap64 (x4 + x5)) : Int).toNat (rd x1 (wrap64 ((wrap64 (4 * x5)) + 1)))).set ((wrap64 ((wrap64 (x4 * 2)) + x5)) : Int).toNat (rd x1 (wrap64 ((wrap64 (4 * x5)) + 2)))).set ((wrap64 ((wrap64 (x4 * 3)) + x5)) : Int).toNat (rd x1 (wrap64 ((wrap64 (4 * x5)) + 3)))) x1 x4 (wrap64 (x5 + 1))) else (none)) else (none)) else (none)) else (none)) else (none)) else (none)) else (none)) else (none)) else (none)) else (none)) else (none)) else (none)) else (none)) else (none)) else (none)) else (none)) else (some x0)
def encoding_encodeByteStreamSplitWidth4.f (k : Nat) (l0 : List Int) (l1 : List Int) : Option (List Int) := encoding_encodeByteStreamSplitWidth4.l0 k l0 l1 (wrap64 ((l1.length : Int) / 4)) 0
theorem encoding_encodeByteStreamSplitWidth4.mono_l : ∀ k, (∀ y0 y1 y2 y3, LeO (encoding_encodeByteStreamSplitWidth4.l0 k y0 y1 y2 y3) (encoding_encodeByteStreamSplitWidth4.l0 (k + 1) y0 y1 y2 y3))
  | 0 => fun _ _ _ _ r h => by simp [encoding_encodeByteStreamSplitWidth4.l0] at h
  | k + 1 => by
    have ih0 := encoding_encodeByteStreamSplitWidth4.mono_l k
    · intro y0 y1 y2 y3
      unfold encoding_encodeByteStreamSplitWidth4.l0
      repeat' first
      | (with_reducible exact ih0 _ _ _ _)
      | (with_reducible exact LeO.refl _)
      | (with_reducible exact LeO.none _)
      | (with_reducible refine LeO.ite ?_ ?_)
      | (with_reducible refine LeO.bind ?_ (fun _ => ?_))
      | exact ih0 _ _ _ _
      | exact LeO.none _
      | refine LeO.ite ?_ ?_
      | refine LeO.bind ?_ (fun _ => ?_)
theorem encoding_encodeByteStreamSplitWidth4.mono : ∀ a0 a1 k, LeO (encoding_encodeByteStreamSplitWidth4.f k a0 a1) (encoding_encodeByteStreamSplitWidth4.f (k + 1) a0 a1) := by
  intro a0 a1 k
  have ih0 := encoding_encodeByteStreamSplitWidth4.mono_l k
  unfold encoding_encodeByteStreamSplitWidth4.f
  repeat' first
      | (with_reducible exact ih0 _ _ _ _)
      | (with_reducible exact LeO.refl _)
      | (with_reducible exact LeO.none _)
      | (with_reducible refine LeO.ite ?_ ?_)
      | (with_reducible refine LeO.bind ?_ (fun _ => ?_))
      | exact ih0 _ _ _ _
      | exact LeO.none _
      | refine LeO.ite ?_ ?_
      | refine LeO.bind ?_ (fun _ => ?_)
set_option maxHeartbeats 8000000 in
set_option maxRecDepth 100000 in
theorem encoding_encodeByteStreamSplitWidth4.calls (k : Nat) (P0_ : Nat → Prop) (u9000_ : Value) (l0 : List Int) (A1 : Option Addr) (c1 : Nat) (l1 : List Int) (r : List Int) (w0 w : World) (hB : Below w0.heap.size w0 w) (ho0 : Kd.R (Kd.int .u8) 5 w w0.heap.size P0_ u9000_ l0) (hr1 : ∀ W_, Kept w W_ (fun k_ => P0_ k_) → Kd.C (Kd.int .u8) W_ A1 l1.length l1) (hc1 : l1.length ≤ c1) (h : encoding_encodeByteStreamSplitWidth4.f k l0 l1 = some r) :
    Calls Try.prog 75 #[u9000_, .slice A1 l1.length c1] w fun e w' => e = .returned (.tuple #[]) ∧ Kd.R (Kd.int .u8) 5 w' w0.heap.size (fun k_ => (P0_ k_ ∨ w.heap.size ≤ k_)) u9000_ r ∧ Below w0.heap.size w0 w' ∧ Kept w w' (fun k_ => P0_ k_) := by
  have HO0 := Aside0.mk (show Kd.R (Kd.int .u8) 5 w w0.heap.size (fun k_ => (P0_ k_ ∨ w.heap.size ≤ k_)) u9000_ l0 from Kd.R_mono ho0 (fun k_ hk => (.inl hk)))
  have HR1 := Aside0.mk hr1
  have HC1 := Aside0.mk hc1
  clear hr1 hc1
  have HK := Aside0.mk (Kept.refl w (fun k_ => P0_ k_))
  have HW0 := Aside0.mk hB.size
  have HB := Aside0.mk hB
  clear hB
  have H : (encoding_encodeByteStreamSplitWidth4.l0 k l0 l1 (wrap64 ((l1.length : Int) / 4)) 0) = some r := h
  clear h
  have H' := Aside0.mk H
  clear H
  obtain ⟨Ao3, co3, eo3⟩ := Kd.R_slice HO0.out
  subst eo3
  go_enter Try.func75, Try.ntmps75
  go_wp2_with (first | (go_at_call 87; (with_reducible refine (debug_Assert.calls _ _ _).mono ?_); rintro e w' ⟨rfl, ⟨nd, rfl⟩⟩) | ((with_reducible refine gate_callee (f := 87) rfl ?_); refine goesL_ _ rfl rfl Try.func87 (by kernel_rfl) rfl _ rfl (by (try simp only [List.map_toArray, List.map_cons, List.map_nil]); first | done | rfl) ?_; (with_reducible refine (debug_Assert.calls _ _ _).mono ?_); rintro e w' ⟨rfl, ⟨nd, rfl⟩⟩; refine ⟨_, rfl, ?_⟩))
  go_loopg [5] k (fun kq v5 w' => ∃ (x0_1 : List Int) (x5_1 : Int), v5 = .int .i64 x5_1 ∧ Aside0 (encoding_encodeByteStreamSplitWidth4.l0 kq x0_1 l1 (wrap64 ((l1.length : Int) / 4)) x5_1 = some r) ∧ Aside0 (kq ≤ k) ∧ Aside0 (Kd.R (Kd.int .u8) 5 w' w0.heap.size (fun k_ => (P0_ k_ ∨ w.heap.size ≤ k_)) (.slice Ao3 l0.length co3) x0_1) ∧ Aside0 (Kept w w' (fun k_ => P0_ k_)) ∧ Aside0 (Below w0.heap.size w0 w'))
  case atStart => exact ⟨(l0), (0), (by first | rfl | (simp; done) | (simp [*]; done)), H', ⟨Nat.le_refl _⟩, ⟨by (with_reducible repeat (first | apply Kd.R_alloc | apply Kd.R_drewN | apply Kd.R_drew)); exact HO0.out⟩, ⟨by repeat (first | (with_reducible first | exact HK.out | apply Kept.alloc | apply Kept.drewN | apply Kept.drew) | exact HK.out)⟩, ⟨by repeat (first | (with_reducible first | exact HB.out | apply below_alloc | apply pw_below_drewN | apply below_drew1) | exact HB.out)⟩⟩
  case round =>
    clear H'
    try clear c1
    try clear p2
    obtain ⟨x0_1, x5_1, rfl, HA, HK1, HO_0, HK, HB⟩ := hrel
    have hl0_1 := (Kd.R_reads' HO_0.out).1
    rw [hl0_1] at HO_0
    (try simp only [hl0_1])
    cases gk with
    | zero => exact absurd HA.out (by simp [encoding_encodeByteStreamSplitWidth4.l0])
    | succ k1 =>
      have H := HA.out
      clear HA
      simp only [encoding_encodeByteStreamSplitWidth4.l0] at H
      by_cases c4 : x5_1 < (wrap64 ((l1.length : Int) / 4))
      · rw [if_pos c4] at H
        have c4b0 : decide (x5_1 < (wrap64 ((l1.length : Int) / 4))) = true := decide_eq_true c4
        clear c4
        obtain ⟨ji5, hji5⟩ : ∃ j_ : Int, (wrap64 (4 * x5_1)) = j_ := ⟨_, rfl⟩
        replace H : (if 0 ≤ (ji5) then (if (ji5) < (l1.length : Int) then (if 0 ≤ x5_1 then (if x5_1 < (x0_1.length : Int) then (if 0 ≤ (wrap64 ((ji5) + 1)) then (if (wrap64 ((ji5) + 1)) < (l1.length : Int) then (if 0 ≤ (wrap64 ((wrap64 ((l1.length : Int) / 4)) + x5_1)) then (if (wrap64 ((wrap64 ((l1.length : Int) / 4)) + x5_1)) < (x0_1.length : Int) then (if 0 ≤ (wrap64 ((ji5) + 2)) then (if (wrap64 ((ji5) + 2)) < (l1.length : Int) then (if 0 ≤ (wrap64 ((wrap64 ((wrap64 ((l1.length : Int) / 4)) * 2)) + x5_1)) then (if (wrap64 ((wrap64 ((wrap64 ((l1.length : Int) / 4)) * 2)) + x5_1)) < (x0_1.length : Int) then (if 0 ≤ (wrap64 ((ji5) + 3)) then (if (wrap64 ((ji5) + 3)) < (l1.length : Int) then (if 0 ≤ (wrap64 ((wrap64 ((wrap64 ((l1.length : Int) / 4)) * 3)) + x5_1)) then (if (wrap64 ((wrap64 ((wrap64 ((l1.length : Int) / 4)) * 3)) + x5_1)) < (x0_1.length : Int) then (encoding_encodeByteStreamSplitWidth4.l0 k1 ((((x0_1.set (x5_1 : Int).toNat (rd l1 (ji5))).set ((wrap64 ((wrap64 ((l1.length : Int) / 4)) + x5_1)) : Int).toNat (rd l1 (wrap64 ((ji5) + 1)))).set ((wrap64 ((wrap64 ((wrap64 ((l1.length : Int) / 4)) * 2)) + x5_1)) : Int).toNat (rd l1 (wrap64 ((ji5) + 2)))).set ((wrap64 ((wrap64 ((wrap64 ((l1.length : Int) / 4)) * 3)) + x5_1)) : Int).toNat (rd l1 (wrap64 ((ji5) + 3)))) l1 (wrap64 ((l1.length : Int) / 4)) (wrap64 (x5_1 + 1))) else (none)) else (none)) else (none)) else (none)) else (none)) else (none)) else (none)) else (none)) else (none)) else (none)) else (none)) else (none)) else (none)) else (none)) else (none)) else (none)) = some r := by first | (rw [hji5] at H; exact H) | (simp only [hji5] at H ⊢; exact H)
        have hji5w : (IntKind.i64.wrap (4 * x5_1)) = ji5 := (i64_w _).trans hji5
        by_cases c6 : 0 ≤ (ji5)
        · rw [if_pos c6] at H
          have c6b0 : decide (0 ≤ (ji5)) = true := decide_eq_true c6
          clear c6
          by_cases c7 : (ji5) < (l1.length : Int)
          · rw [if_pos c7] at H
            have c7b0 : decide ((ji5) < (l1.length : Int)) = true := decide_eq_true c7
            clear c7
            by_cases c8 : 0 ≤ x5_1
            · rw [if_pos c8] at H
              have c8b0 : decide (0 ≤ x5_1) = true := decide_eq_true c8
              clear c8
              by_cases c9 : x5_1 < (x0_1.length : Int)
              · rw [if_pos c9] at H
                have c9b0 : decide (x5_1 < (x0_1.length : Int)) = true := decide_eq_true c9
                clear c9
                obtain ⟨y106, hy106⟩ : ∃ y_ : List Int, y_ = (x0_1.set (x5_1 : Int).toNat (rd l1 (ji5))) := ⟨_, rfl⟩
                replace H : (if 0 ≤ (wrap64 ((ji5) + 1)) then (if (wrap64 ((ji5) + 1)) < (l1.length : Int) then (if 0 ≤ (wrap64 ((wrap64 ((l1.length : Int) / 4)) + x5_1)) then (if (wrap64 ((wrap64 ((l1.length : Int) / 4)) + x5_1)) < (x0_1.length : Int) then (if 0 ≤ (wrap64 ((ji5) + 2)) then (if (wrap64 ((ji5) + 2)) < (l1.length : Int) then (if 0 ≤ (wrap64 ((wrap64 ((wrap64 ((l1.length : Int) / 4)) * 2)) + x5_1)) then (if (wrap64 ((wrap64 ((wrap64 ((l1.length : Int) / 4)) * 2)) + x5_1)) < (x0_1.length : Int) then (if 0 ≤ (wrap64 ((ji5) + 3)) then (if (wrap64 ((ji5) + 3)) < (l1.length : Int) then (if 0 ≤ (wrap64 ((wrap64 ((wrap64 ((l1.length : Int) / 4)) * 3)) + x5_1)) then (if (wrap64 ((wrap64 ((wrap64 ((l1.length : Int) / 4)) * 3)) + x5_1)) < (x0_1.length : Int) then (encoding_encodeByteStreamSplitWidth4.l0 k1 (((y106.set ((wrap64 ((wrap64 ((l1.length : Int) / 4)) + x5_1)) : Int).toNat (rd l1 (wrap64 ((ji5) + 1)))).set ((wrap64 ((wrap64 ((wrap64 ((l1.length : Int) / 4)) * 2)) + x5_1)) : Int).toNat (rd l1 (wrap64 ((ji5) + 2)))).set ((wrap64 ((wrap64 ((wrap64 ((l1.length : Int) / 4)) * 3)) + x5_1)) : Int).toNat (rd l1 (wrap64 ((ji5) + 3)))) l1 (wrap64 ((l1.length : Int) / 4)) (wrap64 (x5_1 + 1))) else (none)) else (none)) else (none)) else (none)) else (none)) else (none)) else (none)) else (none)) else (none)) else (none)) else (none)) else (none)) = some r := by first | (rw [hy106]; with_reducible exact H) | (have H2_ := (Option.bind_some _ _).symm.trans H; rw [hy106]; with_reducible exact H2_) | (have H2_ := (Option.bind_some _ _).symm.trans H; with_reducible exact H2_) | with_reducible exact H | (rw [hy106]; exact H) | exact H
                have Ny106 := Aside0.mk hy106
                clear hy106
                obtain ⟨ji11, hji11⟩ : ∃ j_ : Int, (wrap64 ((ji5) + 1)) = j_ := ⟨_, rfl⟩
                replace H : (if 0 ≤ (ji11) then (if (ji11) < (l1.length : Int) then (if 0 ≤ (wrap64 ((wrap64 ((l1.length : Int) / 4)) + x5_1)) then (if (wrap64 ((wrap64 ((l1.length : Int) / 4)) + x5_1)) < (x0_1.length : Int) then (if 0 ≤ (wrap64 ((ji5) + 2)) then (if (wrap64 ((ji5) + 2)) < (l1.length : Int) then (if 0 ≤ (wrap64 ((wrap64 ((wrap64 ((l1.length : Int) / 4)) * 2)) + x5_1)) then (if (wrap64 ((wrap64 ((wrap64 ((l1.length : Int) / 4)) * 2)) + x5_1)) < (x0_1.length : Int) then (if 0 ≤ (wrap64 ((ji5) + 3)) then (if (wrap64 ((ji5) + 3)) < (l1.length : Int) then (if 0 ≤ (wrap64 ((wrap64 ((wrap64 ((l1.length : Int) / 4)) * 3)) + x5_1)) then (if (wrap64 ((wrap64 ((wrap64 ((l1.length : Int) / 4)) * 3)) + x5_1)) < (x0_1.length : Int) then (encoding_encodeByteStreamSplitWidth4.l0 k1 (((y106.set ((wrap64 ((wrap64 ((l1.length : Int) / 4)) + x5_1)) : Int).toNat (rd l1 (ji11))).set ((wrap64 ((wrap64 ((wrap64 ((l1.length : Int) / 4)) * 2)) + x5_1)) : Int).toNat (rd l1 (wrap64 ((ji5) + 2)))).set ((wrap64 ((wrap64 ((wrap64 ((l1.length : Int) / 4)) * 3)) + x5_1)) : Int).toNat (rd l1 (wrap64 ((ji5) + 3)))) l1 (wrap64 ((l1.length : Int) / 4)) (wrap64 (x5_1 + 1))) else (none)) else (none)) else (none)) else (none)) else (none)) else (none)) else (none)) else (none)) else (none)) else (none)) else (none)) else (none)) = some r := by first | (rw [hji11] at H; exact H) | (simp only [hji11] at H ⊢; exact H)
                have hji11w : (IntKind.i64.wrap ((ji5) + 1)) = ji11 := (i64_w _).trans hji11
                by_cases c12 : 0 ≤ (ji11)
                · rw [if_pos c12] at H
                  have c12b0 : decide (0 ≤ (ji11)) = true := decide_eq_true c12
                  clear c12
                  by_cases c13 : (ji11) < (l1.length : Int)
                  · rw [if_pos c13] at H
                    have c13b0 : decide ((ji11) < (l1.length : Int)) = true := decide_eq_true c13
                    clear c13
                    obtain ⟨ji14, hji14⟩ : ∃ j_ : Int, (wrap64 ((wrap64 ((l1.length : Int) / 4)) + x5_1)) = j_ := ⟨_, rfl⟩
                    replace H : (if 0 ≤ (ji14) then (if (ji14) < (x0_1.length : Int) then (if 0 ≤ (wrap64 ((ji5) + 2)) then (if (wrap64 ((ji5) + 2)) < (l1.length : Int) then (if 0 ≤ (wrap64 ((wrap64 ((wrap64 ((l1.length : Int) / 4)) * 2)) + x5_1)) then (if (wrap64 ((wrap64 ((wrap64 ((l1.length : Int) / 4)) * 2)) + x5_1)) < (x0_1.length : Int) then (if 0 ≤ (wrap64 ((ji5) + 3)) then (if (wrap64 ((ji5) + 3)) < (l1.length : Int) then (if 0 ≤ (wrap64 ((wrap64 ((wrap64 ((l1.length : Int) / 4)) * 3)) + x5_1)) then (if (wrap64 ((wrap64 ((wrap64 ((l1.length : Int) / 4)) * 3)) + x5_1)) < (x0_1.length : Int) then (encoding_encodeByteStreamSplitWidth4.l0 k1 (((y106.set ((ji14) : Int).toNat (rd l1 (ji11))).set ((wrap64 ((wrap64 ((wrap64 ((l1.length : Int) / 4)) * 2)) + x5_1)) : Int).toNat (rd l1 (wrap64 ((ji5) + 2)))).set ((wrap64 ((wrap64 ((wrap64 ((l1.length : Int) / 4)) * 3)) + x5_1)) : Int).toNat (rd l1 (wrap64 ((ji5) + 3)))) l1 (wrap64 ((l1.length : Int) / 4)) (wrap64 (x5_1 + 1))) else (none)) else (none)) else (none)) else (none)) else (none)) else (none)) else (none)) else (none)) else (none)) else (none)) = some r := by first | (rw [hji14] at H; exact H) | (simp only [hji14] at H ⊢; exact H)
                    have hji14w : (IntKind.i64.wrap ((wrap64 ((l1.length : Int) / 4)) + x5_1)) = ji14 := (i64_w _).trans hji14
                    by_cases c15 : 0 ≤ (ji14)
                    · rw [if_pos c15] at H
                      have c15b0 : decide (0 ≤ (ji14)) = true := decide_eq_true c15
                      clear c15
                      by_cases c16 : (ji14) < (x0_1.length : Int)
                      · rw [if_pos c16] at H
                        have c16b0 : decide ((ji14) < (x0_1.length : Int)) = true := decide_eq_true c16
                        clear c16
                        obtain ⟨y108, hy108⟩ : ∃ y_ : List Int, y_ = (y106.set ((ji14) : Int).toNat (rd l1 (ji11))) := ⟨_, rfl⟩
                        replace H : (if 0 ≤ (wrap64 ((ji5) + 2)) then (if (wrap64 ((ji5) + 2)) < (l1.length : Int) then (if 0 ≤ (wrap64 ((wrap64 ((wrap64 ((l1.length : Int) / 4)) * 2)) + x5_1)) then (if (wrap64 ((wrap64 ((wrap64 ((l1.length : Int) / 4)) * 2)) + x5_1)) < (x0_1.length : Int) then (if 0 ≤ (wrap64 ((ji5) + 3)) then (if (wrap64 ((ji5) + 3)) < (l1.length : Int) then (if 0 ≤ (wrap64 ((wrap64 ((wrap64 ((l1.length : Int) / 4)) * 3)) + x5_1)) then (if (wrap64 ((wrap64 ((wrap64 ((l1.length : Int) / 4)) * 3)) + x5_1)) < (x0_1.length : Int) then (encoding_encodeByteStreamSplitWidth4.l0 k1 ((y108.set ((wrap64 ((wrap64 ((wrap64 ((l1.length : Int) / 4)) * 2)) + x5_1)) : Int).toNat (rd l1 (wrap64 ((ji5) + 2)))).set ((wrap64 ((wrap64 ((wrap64 ((l1.length : Int) / 4)) * 3)) + x5_1)) : Int).toNat (rd l1 (wrap64 ((ji5) + 3)))) l1 (wrap64 ((l1.length : Int) / 4)) (wrap64 (x5_1 + 1))) else (none)) else (none)) else (none)) else (none)) else (none)) else (none)) else (none)) else (none)) = some r := by first | (rw [hy108]; with_reducible exact H) | (have H2_ := (Option.bind_some _ _).symm.trans H; rw [hy108]; with_reducible exact H2_) | (have H2_ := (Option.bind_some _ _).symm.trans H; with_reducible exact H2_) | with_reducible exact H | (rw [hy108]; exact H) | exact H
                        have Ny108 := Aside0.mk hy108
                        clear hy108
                        obtain ⟨ji18, hji18⟩ : ∃ j_ : Int, (wrap64 ((ji5) + 2)) = j_ := ⟨_, rfl⟩
                        replace H : (if 0 ≤ (ji18) then (if (ji18) < (l1.length : Int) then (if 0 ≤ (wrap64 ((wrap64 ((wrap64 ((l1.length : Int) / 4)) * 2)) + x5_1)) then (if (wrap64 ((wrap64 ((wrap64 ((l1.length : Int) / 4)) * 2)) + x5_1)) < (x0_1.length : Int) then (if 0 ≤ (wrap64 ((ji5) + 3)) then (if (wrap64 ((ji5) + 3)) < (l1.length : Int) then (if 0 ≤ (wrap64 ((wrap64 ((wrap64 ((l1.length : Int) / 4)) * 3)) + x5_1)) then (if (wrap64 ((wrap64 ((wrap64 ((l1.length : Int) / 4)) * 3)) + x5_1)) < (x0_1.length : Int) then (encoding_encodeByteStreamSplitWidth4.l0 k1 ((y108.set ((wrap64 ((wrap64 ((wrap64 ((l1.length : Int) / 4)) * 2)) + x5_1)) : Int).toNat (rd l1 (ji18))).set ((wrap64 ((wrap64 ((wrap64 ((l1.length : Int) / 4)) * 3)) + x5_1)) : Int).toNat (rd l1 (wrap64 ((ji5) + 3)))) l1 (wrap64 ((l1.length : Int) / 4)) (wrap64 (x5_1 + 1))) else (none)) else (none)) else (none)) else (none)) else (none)) else (none)) else (none)) else (none)) = some r := by first | (rw [hji18] at H; exact H) | (simp only [hji18] at H ⊢; exact H)
                        have hji18w : (IntKind.i64.wrap ((ji5) + 2)) = ji18 := (i64_w _).trans hji18
                        by_cases c19 : 0 ≤ (ji18)
                        · rw [if_pos c19] at H
                          have c19b0 : decide (0 ≤ (ji18)) = true := decide_eq_true c19
                          clear c19
                          by_cases c20 : (ji18) < (l1.length : Int)
                          · rw [if_pos c20] at H
                            have c20b0 : decide ((ji18) < (l1.length : Int)) = true := decide_eq_true c20
                            clear c20
                            obtain ⟨ji21, hji21⟩ : ∃ j_ : Int, (wrap64 ((wrap64 ((wrap64 ((l1.length : Int) / 4)) * 2)) + x5_1)) = j_ := ⟨_, rfl⟩
                            replace H : (if 0 ≤ (ji21) then (if (ji21) < (x0_1.length : Int) then (if 0 ≤ (wrap64 ((ji5) + 3)) then (if (wrap64 ((ji5) + 3)) < (l1.length : Int) then (if 0 ≤ (wrap64 ((wrap64 ((wrap64 ((l1.length : Int) / 4)) * 3)) + x5_1)) then (if (wrap64 ((wrap64 ((wrap64 ((l1.length : Int) / 4)) * 3)) + x5_1)) < (x0_1.length : Int) then (encoding_encodeByteStreamSplitWidth4.l0 k1 ((y108.set ((ji21) : Int).toNat (rd l1 (ji18))).set ((wrap64 ((wrap64 ((wrap64 ((l1.length : Int) / 4)) * 3)) + x5_1)) : Int).toNat (rd l1 (wrap64 ((ji5) + 3)))) l1 (wrap64 ((l1.length : Int) / 4)) (wrap64 (x5_1 + 1))) else (none)) else (none)) else (none)) else (none)) else (none)) else (none)) = some r := by first | (rw [hji21] at H; exact H) | (simp only [hji21] at H ⊢; exact H)
                            have hji21w : (IntKind.i64.wrap ((wrap64 ((wrap64 ((l1.length : Int) / 4)) * 2)) + x5_1)) = ji21 := (i64_w _).trans hji21
                            by_cases c22 : 0 ≤ (ji21)
                            · rw [if_pos c22] at H
                              have c22b0 : decide (0 ≤ (ji21)) = true := decide_eq_true c22
                              clear c22
                              by_cases c23 : (ji21) < (x0_1.length : Int)
                              · rw [if_pos c23] at H
                                have c23b0 : decide ((ji21) < (x0_1.length : Int)) = true := decide_eq_true c23
                                clear c23
                                obtain ⟨y110, hy110⟩ : ∃ y_ : List Int, y_ = (y108.set ((ji21) : Int).toNat (rd l1 (ji18))) := ⟨_, rfl⟩
                                replace H : (if 0 ≤ (wrap64 ((ji5) + 3)) then (if (wrap64 ((ji5) + 3)) < (l1.length : Int) then (if 0 ≤ (wrap64 ((wrap64 ((wrap64 ((l1.length : Int) / 4)) * 3)) + x5_1)) then (if (wrap64 ((wrap64 ((wrap64 ((l1.length : Int) / 4)) * 3)) + x5_1)) < (x0_1.length : Int) then (encoding_encodeByteStreamSplitWidth4.l0 k1 (y110.set ((wrap64 ((wrap64 ((wrap64 ((l1.length : Int) / 4)) * 3)) + x5_1)) : Int).toNat (rd l1 (wrap64 ((ji5) + 3)))) l1 (wrap64 ((l1.length : Int) / 4)) (wrap64 (x5_1 + 1))) else (none)) else (none)) else (none)) else (none)) = some r := by first | (rw [hy110]; with_reducible exact H) | (have H2_ := (Option.bind_some _ _).symm.trans H; rw [hy110]; with_reducible exact H2_) | (have H2_ := (Option.bind_some _ _).symm.trans H; with_reducible exact H2_) | with_reducible exact H | (rw [hy110]; exact H) | exact H
                                have Ny110 := Aside0.mk hy110
                                clear hy110
                                obtain ⟨ji25, hji25⟩ : ∃ j_ : Int, (wrap64 ((ji5) + 3)) = j_ := ⟨_, rfl⟩
                                replace H : (if 0 ≤ (ji25) then (if (ji25) < (l1.length : Int) then (if 0 ≤ (wrap64 ((wrap64 ((wrap64 ((l1.length : Int) / 4)) * 3)) + x5_1)) then (if (wrap64 ((wrap64 ((wrap64 ((l1.length : Int) / 4)) * 3)) + x5_1)) < (x0_1.length : Int) then (encoding_encodeByteStreamSplitWidth4.l0 k1 (y110.set ((wrap64 ((wrap64 ((wrap64 ((l1.length : Int) / 4)) * 3)) + x5_1)) : Int).toNat (rd l1 (ji25))) l1 (wrap64 ((l1.length : Int) / 4)) (wrap64 (x5_1 + 1))) else (none)) else (none)) else (none)) else (none)) = some r := by first | (rw [hji25] at H; exact H) | (simp only [hji25] at H ⊢; exact H)
                                have hji25w : (IntKind.i64.wrap ((ji5) + 3)) = ji25 := (i64_w _).trans hji25
                                by_cases c26 : 0 ≤ (ji25)
                                · rw [if_pos c26] at H
                                  have c26b0 : decide (0 ≤ (ji25)) = true := decide_eq_true c26
                                  clear c26
                                  by_cases c27 : (ji25) < (l1.length : Int)
                                  · rw [if_pos c27] at H
                                    have c27b0 : decide ((ji25) < (l1.length : Int)) = true := decide_eq_true c27
                                    clear c27
                                    obtain ⟨ji28, hji28⟩ : ∃ j_ : Int, (wrap64 ((wrap64 ((wrap64 ((l1.length : Int) / 4)) * 3)) + x5_1)) = j_ := ⟨_, rfl⟩
                                    replace H : (if 0 ≤ (ji28) then (if (ji28) < (x0_1.length : Int) then (encoding_encodeByteStreamSplitWidth4.l0 k1 (y110.set ((ji28) : Int).toNat (rd l1 (ji25))) l1 (wrap64 ((l1.length : Int) / 4)) (wrap64 (x5_1 + 1))) else (none)) else (none)) = some r := by first | (rw [hji28] at H; exact H) | (simp only [hji28] at H ⊢; exact H)
                                    have hji28w : (IntKind.i64.wrap ((wrap64 ((wrap64 ((l1.length : Int) / 4)) * 3)) + x5_1)) = ji28 := (i64_w _).trans hji28
                                    by_cases c29 : 0 ≤ (ji28)
                                    · rw [if_pos c29] at H
                                      have c29b0 : decide (0 ≤ (ji28)) = true := decide_eq_true c29
                                      clear c29
                                      by_cases c30 : (ji28) < (x0_1.length : Int)
                                      · rw [if_pos c30] at H
                                        have c30b0 : decide ((ji28) < (x0_1.length : Int)) = true := decide_eq_true c30
                                        clear c30
                                        obtain ⟨y112, hy112⟩ : ∃ y_ : List Int, y_ = (y110.set ((ji28) : Int).toNat (rd l1 (ji25))) := ⟨_, rfl⟩
                                        replace H : (encoding_encodeByteStreamSplitWidth4.l0 k1 y112 l1 (wrap64 ((l1.length : Int) / 4)) (wrap64 (x5_1 + 1))) = some r := by first | (rw [hy112]; with_reducible exact H) | (have H2_ := (Option.bind_some _ _).symm.trans H; rw [hy112]; with_reducible exact H2_) | (have H2_ := (Option.bind_some _ _).symm.trans H; with_reducible exact H2_) | with_reducible exact H | (rw [hy112]; exact H) | exact H
                                        have Ny112 := Aside0.mk hy112
                                        clear hy112
                                        have H' := Aside0.mk H
                                        clear H
                                        have p105 : 0 ≤ ((ji5) : Int) := of_decide_eq_true (by first | (with_reducible assumption) | assumption)
                                        have q105 : (ji5) < (l1.length : Int) := of_decide_eq_true (by first | (with_reducible assumption) | assumption)
                                        obtain ⟨ad105, e105, hx105_0⟩ := Kd.at_int (Kd.C_kept_now HR1.out HK.out) (ji5) p105 q105
                                        cases e105
                                        replace p105 := eq_true p105
                                        replace q105 := eq_true q105
                                        have p10 : 0 ≤ (x5_1 : Int) := of_decide_eq_true (by first | (with_reducible assumption) | assumption)
                                        have q10 : (x5_1 : Int) < ((x0_1.length : Int) : Int) := of_decide_eq_true (by first | (with_reducible assumption) | assumption)
                                        obtain ⟨go10, co10, eo10, gb10, gl10, cl10, HG10⟩ := Kd.R_form HO_0.out (by omega)
                                        (first | cases eo10 | (injection eo10 with ea_ en_ ec_; (first | subst ea_ | (injection ea_ with ea_; subst ea_)); subst ec_; clear en_))
                                        have GB10 := Aside0.mk gb10
                                        have GG10 := Aside0.mk HG10
                                        clear gb10 gl10 HG10
                                        have HMgo10 := Aside0.mk (show (P0_ go10 ∨ w.heap.size ≤ go10) from (HO_0.out.1 _ rfl))
                                        obtain ⟨hx10_0, hf10_0⟩ := Kd.R_celln 0 HO_0.out (x5_1 : Int) p10 q10
                                        replace p10 := eq_true p10
                                        replace q10 := eq_true q10
                                        have HP32 := Kd.R_putg HO_0.out (x5_1 : Int) (rd l1 (ji5))
                                        go_wp2_with (first | ((with_reducible refine gate_store (t := 5) (p := 30) rfl ?_); refine store_event (t := 5) (p := 30) (v := ?vo_w33) (w1 := (wr.setCell ⟨go10, (x5_1 : Int).toNat, none⟩ (.int .u8 (rd l1 (ji5))))) ?hg ?ho ?hn ?hr ?_; (case ho => rfl); (case hg => rfl); (case hn => rfl); (case hr => first | (go_simp; done) | (go_simp; rfl)); intro w33 hw; have hg : wr.grownBy w33 (some go10) := (by rw [hw]; exact HP32.2); have hp_ : Kd.R (Kd.int .u8) 5 w33 w0.heap.size (fun k_ => (P0_ k_ ∨ w.heap.size ≤ k_)) (.slice (some ⟨go10, 0, none⟩) x0_1.length co3) y106 := (by rw [hw, Ny106.out]; exact HP32.1); clear HP32; have n0_ := Aside0.mk (hp_); have n1_ := Aside0.mk ((by rw [hw]; exact below_set (HB.out) GB10.out : Below w0.heap.size w0 w33)); have n2_ := Aside0.mk (Kept.of_grown (S := (fun k_ => P0_ k_)) hg (by repeat (first | (with_reducible first | exact HK.out | apply Kept.alloc | apply Kept.drewN | apply Kept.drew) | exact HK.out)) (fun k_ e_ => (HO_0.out.1 k_ e_))); clear HO_0; clear HB; clear HK; have HO_0 := n0_; have HB := n1_; have HK := n2_; clear n0_ n1_ n2_; clear hg hw hp_; have p107 : 0 ≤ ((ji11) : Int) := of_decide_eq_true (by first | (with_reducible assumption) | assumption); have q107 : (ji11) < (l1.length : Int) := of_decide_eq_true (by first | (with_reducible assumption) | assumption); obtain ⟨ad107, e107, hx107_0⟩ := Kd.at_int (Kd.C_kept_now HR1.out HK.out) (ji11) p107 q107; obtain rfl : ad105 = ad107 := (by injection e107); replace p107 := eq_true p107; replace q107 := eq_true q107; have p17 : 0 ≤ ((ji14) : Int) := of_decide_eq_true (by first | (with_reducible assumption) | assumption); have q17 : ((ji14) : Int) < ((x0_1.length : Int) : Int) := of_decide_eq_true (by first | (with_reducible assumption) | assumption); obtain ⟨hx17_0, hf17_0⟩ := Kd.R_celln 0 HO_0.out ((ji14) : Int) p17 q17; replace p17 := eq_true p17; replace q17 := eq_true q17; obtain ⟨hy34_, hz34_⟩ := Kd.R_celln 0 HO_0.out ((ji14) : Int) (of_decide_eq_true (by first | (with_reducible assumption) | assumption)) (of_decide_eq_true (by first | (with_reducible assumption) | assumption)); have HP34 := Kd.R_putg HO_0.out ((ji14) : Int) (rd l1 (ji11))) | ((with_reducible refine gate_store (t := 5) (p := 40) rfl ?_); refine store_event (t := 5) (p := 40) (v := ?vo_w35) (w1 := (w33.setCell ⟨go10, ((ji14) : Int).toNat, none⟩ (.int .u8 (rd l1 (ji11))))) ?hg ?ho ?hn ?hr ?_; (case ho => rfl); (case hg => rfl); (case hn => rfl); (case hr => first | (go_simp; done) | (go_simp; rfl)); intro w35 hw; have hg : w33.grownBy w35 (some go10) := (by rw [hw]; exact HP34.2); have hp_ : Kd.R (Kd.int .u8) 5 w35 w0.heap.size (fun k_ => (P0_ k_ ∨ w.heap.size ≤ k_)) (.slice (some ⟨go10, 0, none⟩) x0_1.length co3) y108 := (by rw [hw, Ny108.out]; exact HP34.1); clear HP34; have n0_ := Aside0.mk (hp_); have n1_ := Aside0.mk ((by rw [hw]; exact below_set (HB.out) GB10.out : Below w0.heap.size w0 w35)); have n2_ := Aside0.mk (Kept.of_grown (S := (fun k_ => P0_ k_)) hg (by repeat (first | (with_reducible first | exact HK.out | apply Kept.alloc | apply Kept.drewN | apply Kept.drew) | exact HK.out)) (fun k_ e_ => (HO_0.out.1 k_ e_))); clear HO_0; clear HB; clear HK; have HO_0 := n0_; have HB := n1_; have HK := n2_; clear n0_ n1_ n2_; clear hg hw hp_; have p109 : 0 ≤ ((ji18) : Int) := of_decide_eq_true (by first | (with_reducible assumption) | assumption); have q109 : (ji18) < (l1.length : Int) := of_decide_eq_true (by first | (with_reducible assumption) | assumption); obtain ⟨ad109, e109, hx109_0⟩ := Kd.at_int (Kd.C_kept_now HR1.out HK.out) (ji18) p109 q109; obtain rfl : ad105 = ad109 := (by injection e109); replace p109 := eq_true p109; replace q109 := eq_true q109; have p24 : 0 ≤ ((ji21) : Int) := of_decide_eq_true (by first | (with_reducible assumption) | assumption); have q24 : ((ji21) : Int) < ((x0_1.length : Int) : Int) := of_decide_eq_true (by first | (with_reducible assumption) | assumption); obtain ⟨hx24_0, hf24_0⟩ := Kd.R_celln 0 HO_0.out ((ji21) : Int) p24 q24; replace p24 := eq_true p24; replace q24 := eq_true q24; obtain ⟨hy36_, hz36_⟩ := Kd.R_celln 0 HO_0.out ((ji21) : Int) (of_decide_eq_true (by first | (with_reducible assumption) | assumption)) (of_decide_eq_true (by first | (with_reducible assumption) | assumption)); have HP36 := Kd.R_putg HO_0.out ((ji21) : Int) (rd l1 (ji18))) | ((with_reducible refine gate_store (t := 5) (p := 51) rfl ?_); refine store_event (t := 5) (p := 51) (v := ?vo_w37) (w1 := (w35.setCell ⟨go10, ((ji21) : Int).toNat, none⟩ (.int .u8 (rd l1 (ji18))))) ?hg ?ho ?hn ?hr ?_; (case ho => rfl); (case hg => rfl); (case hn => rfl); (case hr => first | (go_simp; done) | (go_simp; rfl)); intro w37 hw; have hg : w35.grownBy w37 (some go10) := (by rw [hw]; exact HP36.2); have hp_ : Kd.R (Kd.int .u8) 5 w37 w0.heap.size (fun k_ => (P0_ k_ ∨ w.heap.size ≤ k_)) (.slice (some ⟨go10, 0, none⟩) x0_1.length co3) y110 := (by rw [hw, Ny110.out]; exact HP36.1); clear HP36; have n0_ := Aside0.mk (hp_); have n1_ := Aside0.mk ((by rw [hw]; exact below_set (HB.out) GB10.out : Below w0.heap.size w0 w37)); have n2_ := Aside0.mk (Kept.of_grown (S := (fun k_ => P0_ k_)) hg (by repeat (first | (with_reducible first | exact HK.out | apply Kept.alloc | apply Kept.drewN | apply Kept.drew) | exact HK.out)) (fun k_ e_ => (HO_0.out.1 k_ e_))); clear HO_0; clear HB; clear HK; have HO_0 := n0_; have HB := n1_; have HK := n2_; clear n0_ n1_ n2_; clear hg hw hp_; have p111 : 0 ≤ ((ji25) : Int) := of_decide_eq_true (by first | (with_reducible assumption) | assumption); have q111 : (ji25) < (l1.length : Int) := of_decide_eq_true (by first | (with_reducible assumption) | assumption); obtain ⟨ad111, e111, hx111_0⟩ := Kd.at_int (Kd.C_kept_now HR1.out HK.out) (ji25) p111 q111; obtain rfl : ad105 = ad111 := (by injection e111); replace p111 := eq_true p111; replace q111 := eq_true q111; have p31 : 0 ≤ ((ji28) : Int) := of_decide_eq_true (by first | (with_reducible assumption) | assumption); have q31 : ((ji28) : Int) < ((x0_1.length : Int) : Int) := of_decide_eq_true (by first | (with_reducible assumption) | assumption); obtain ⟨hx31_0, hf31_0⟩ := Kd.R_celln 0 HO_0.out ((ji28) : Int) p31 q31; replace p31 := eq_true p31; replace q31 := eq_true q31; obtain ⟨hy38_, hz38_⟩ := Kd.R_celln 0 HO_0.out ((ji28) : Int) (of_decide_eq_true (by first | (with_reducible assumption) | assumption)) (of_decide_eq_true (by first | (with_reducible assumption) | assumption)); have HP38 := Kd.R_putg HO_0.out ((ji28) : Int) (rd l1 (ji25))) | ((with_reducible refine gate_store (t := 5) (p := 62) rfl ?_); refine store_event (t := 5) (p := 62) (v := ?vo_w39) (w1 := (w37.setCell ⟨go10, ((ji28) : Int).toNat, none⟩ (.int .u8 (rd l1 (ji25))))) ?hg ?ho ?hn ?hr ?_; (case ho => rfl); (case hg => rfl); (case hn => rfl); (case hr => first | (go_simp; done) | (go_simp; rfl)); intro w39 hw; have hg : w37.grownBy w39 (some go10) := (by rw [hw]; exact HP38.2); have hp_ : Kd.R (Kd.int .u8) 5 w39 w0.heap.size (fun k_ => (P0_ k_ ∨ w.heap.size ≤ k_)) (.slice (some ⟨go10, 0, none⟩) x0_1.length co3) y112 := (by rw [hw, Ny112.out]; exact HP38.1); clear HP38; have n0_ := Aside0.mk (hp_); have n1_ := Aside0.mk ((by rw [hw]; exact below_set (HB.out) GB10.out : Below w0.heap.size w0 w39)); have n2_ := Aside0.mk (Kept.of_grown (S := (fun k_ => P0_ k_)) hg (by repeat (first | (with_reducible first | exact HK.out | apply Kept.alloc | apply Kept.drewN | apply Kept.drew) | exact HK.out)) (fun k_ e_ => (HO_0.out.1 k_ e_))); clear HO_0; clear HB; clear HK; have HO_0 := n0_; have HB := n1_; have HK := n2_; clear n0_ n1_ n2_; clear hg hw hp_))
                                        (try simp only [← hl0_1])
                                        go_roundg k1
                                        case measure => have := HK1.out; omega
                                        case rel => exact ⟨(y112), (wrap64 (x5_1 + 1)), (by first | rfl | (simp; done) | (simp [*]; done)), H', ⟨by have := HK1.out; omega⟩, ⟨by (try simp only [hl0_1]); (with_reducible repeat (first | apply Kd.R_alloc | apply Kd.R_drewN | apply Kd.R_drew)); exact HO_0.out⟩, ⟨by repeat (first | (with_reducible first | exact HK.out | apply Kept.alloc | apply Kept.drewN | apply Kept.drew) | exact HK.out)⟩, ⟨by repeat (first | (with_reducible first | exact HB.out | apply below_alloc | apply pw_below_drewN | apply below_drew1) | exact HB.out)⟩⟩
                                      · rw [if_neg c30] at H
                                        exact absurd H (by simp)
                                    · rw [if_neg c29] at H
                                      exact absurd H (by simp)
                                  · rw [if_neg c27] at H
                                    exact absurd H (by simp)
                                · rw [if_neg c26] at H
                                  exact absurd H (by simp)
                              · rw [if_neg c23] at H
                                exact absurd H (by simp)
                            · rw [if_neg c22] at H
                              exact absurd H (by simp)
                          · rw [if_neg c20] at H
                            exact absurd H (by simp)
                        · rw [if_neg c19] at H
                          exact absurd H (by simp)
                      · rw [if_neg c16] at H
                        exact absurd H (by simp)
                    · rw [if_neg c15] at H
                      exact absurd H (by simp)
                  · rw [if_neg c13] at H
                    exact absurd H (by simp)
                · rw [if_neg c12] at H
                  exact absurd H (by simp)
              · rw [if_neg c9] at H
                exact absurd H (by simp)
            · rw [if_neg c8] at H
              exact absurd H (by simp)
          · rw [if_neg c7] at H
            exact absurd H (by simp)
        · rw [if_neg c6] at H
          exact absurd H (by simp)
      · rw [if_neg c4] at H
        have c4b0 : decide (x5_1 < (wrap64 ((l1.length : Int) / 4))) = false := decide_eq_false c4
        clear c4
        obtain rfl := Option.some.inj H
        go_wp2
        first | go_end0 | ((try simp only [Exit.inBlock, Exit.then]); refine bodyPost_ret (results_none rfl _ _ _) rfl ?_)
        exact ⟨by first | rfl | (simp [errW_none, errW_some] <;> rfl) | (simp [*, errW_none, errW_some] <;> rfl), (by first | exact (by (with_reducible repeat (first | apply Kd.R_alloc | apply Kd.R_drewN | apply Kd.R_drew)); exact HO_0.out) | (simp only [hl0_1]; exact (by (with_reducible repeat (first | apply Kd.R_alloc | apply Kd.R_drewN | apply Kd.R_drew)); exact HO_0.out))), by repeat (first | (with_reducible first | exact HB.out | apply below_alloc | apply pw_below_drewN | apply below_drew1) | exact HB.out), by repeat (first | (with_reducible first | exact HK.out | apply Kept.alloc | apply Kept.drewN | apply Kept.drew) | exact HK.out)⟩

/-! ### encoding_encodeByteStreamSplitWidth8: function 76 -/
def encoding_encodeByteStreamSplitWidth8.l0 : Nat → List Int → List Int → Int → Int → Option (List Int)
  | 0, _, _, _, _ => none
  | k + 1, x0, x1, x4, x5 => if x5 < x4 then (if 0 ≤ (wrap64 (8 * x5)) then (if (wrap64 (8 * x5)) < (x1.length : Int) then (if 0 ≤ x5 then (if x5 < (x0.length : Int) then (if 0 ≤ (wrap64 ((wrap64 (8 * x5)) + 1)) then (if (wrap64 ((wrap64 (8 * x5)) + 1)) < (x1.length : Int) then (if 0 ≤ (wrap64 (x4 + x5)) then (if (wrap64 (x4 + x5)) < (x0.length : Int) then (if 0 ≤ (wrap64 ((wrap64 (8 * x5)) + 2)) then (if (wrap64 ((wrap64 (8 * x5)) + 2)) < (x1.length : Int) then (if 0 ≤ (wrap64 ((wrap64 (x4 * 2)) + x5)) then (if (wrap64 ((wrap64 (x4 * 2)) + x5)) < (x0.length : Int) then (if 0 ≤ (wrap64 ((wrap64 (8 * x5)) + 3)) then (if (wrap64 ((wrap64 (8 * x5)) + 3)) < (x1.length : Int) then (if 0 ≤ (wrap64 ((wrap64 (x4 * 3)) + x5)) then (if (wrap64 ((wrap64 (x4 * 3)) + x5)) < (x0.length : Int) then (if 0 ≤ (wrap64 ((wrap64 (8 * x5)) + 4)) then (if (wrap64 ((wrap64 (8 * x5)) + 4)) < (x1.length : Int) then (if 0 ≤ (wrap64 ((wrap64 (x4 * 4)) + x5)) then (if (wrap64 ((wrap64 (x4 * 4)) + x5)) < (x0.length : Int) then (if 0 ≤ (wrap64 ((wrap64 (8 * x5)) + 5)) then (if (wrap64 ((wrap64 (8 * x5)) + 5)) < (x1.length : Int) then (if 0 ≤ (wrap64 ((wrap64 (x4 * 5)) + x5)) then (if (wrap64 ((wrap64 (x4 * 5)) + x5)) < (x0.length : Int) then (if 0 ≤ (wrap64 ((wrap64 (8 * x5)) + 6)) then (if (wrap64 ((wrap64 (8 * x5)) + 6)) < (x1.length : Int) then (if 0 ≤ (wrap64 ((wrap64 (x4 * 6)) + x5)) then (if (wrap64 ((wrap64 (x4 * 6)) + x5)) < (x0.length : Int) then (if 0 ≤ (wrap64 ((wrap64 (8 * x5)) + 7)) then (if (wrap64 ((wrap64 (8 * x5)) + 7)) < (x1.length : Int) then (if 0 ≤ (wrap64 ((wrap64 (x4 * 7)) + x5)) then (if (wrap64 ((wrap64 (x4 * 7)) + x5)) < (x0.length : Int) then (encoding_encodeByteStreamSplitWidth8.l0 k ((((((((x0.set (x5 : Int).toNat (rd x1 (wrap64 (8 * x5)))).set ((wrap64 (x4 + x5)) : Int).toNat (rd x1 (wrap64 ((wrap64 (8 * x5)) + 1)))).set ((wrap64 ((wrap64 (x4 * 2)) + x5)) : Int).toNat (rd x1 (wrap64 ((wrap64 (8 * x5)) + 2)))).set ((wrap64 ((wrap64 (x4 * 3)) + x5)) : Int).toNat (rd x1 (wrap64 ((wrap64 (8 * x5)) + 3)))).set ((wrap64 ((wrap64 (x4 * 4)) + x5)) : Int).toNat (rd x1 (wrap64 ((wrap64 (8 * x5)) + 4)))).set ((wrap64 ((wrap64 (x4 * 5)) + x5)) : Int).toNat (rd x1 (wrap64 ((wrap64 (8 * x5)) + 5)))).set ((wrap64 ((wrap64 (x4 * 6)) + x5)) : Int).toNat (rd x1 (wrap64 ((wrap64 (8 * x5)) + 6)))).set ((wrap64 ((wrap64 (x4 * 7)) + x5)) : Int).toNat (rd x1 (wrap64 ((wrap64 (8 * x5)) + 7)))) x1 x4 (wrap64 (x5 + 1))) else (none)) else (none)) else (none)) else (none)) else (none)) else (none)) else (none)) else (none)) else (none)) else (none)) else (none)) else (none)) else (none)) else (none)) else (none)) else (none)) else (none)) else (none)) else (none)) else (none)) else (none)) else (none)) else (none)) else (none)) else (none)) else (none)) else (none)) else (none)) else (none)) else (none)) else (none)) else (none)) else (some x0)
def encoding_encodeByteStreamSplitWidth8.f (k : Nat) (l0 : List Int) (l1 : List Int) : Option (List Int) := encoding_encodeByteStreamSplitWidth8.l0 k l0 l1 (wrap64 ((l1.length : Int) / 8)) 0
theorem encoding_encodeByteStreamSplitWidth8.mono_l : ∀ k, (∀ y0 y1 y2 y3, LeO (encoding_encodeByteStreamSplitWidth8.l0 k y0 y1 y2 y3) (encoding_encodeByteStreamSplitWidth8.l0 (k + 1) y0 y1 y2 y3))
  | 0 => fun _ _ _ _ r h => by simp [encoding_encodeByteStreamSplitWidth8.l0] at h
  | k + 1 => by
    have ih0 := encoding_encodeByteStreamSplitWidth8.mono_l k
    · intro y0 y1 y2 y3
      unfold encoding_encodeByteStreamSplitWidth8.l0
      repeat' first
      | (with_reducible exact ih0 _ _ _ _)
      | (with_reducible exact LeO.refl _)
      | (with_reducible exact LeO.none _)
      | (with_reducible refine LeO.ite ?_ ?_)
      | (with_reducible refine LeO.bind ?_ (fun _ => ?_))
      | exact ih0 _ _ _ _
      | exact LeO.none _
      | refine LeO.ite ?_ ?_
      | refine LeO.bind ?_ (fun _ => ?_)
theorem encoding_encodeByteStreamSplitWidth8.mono : ∀ a0 a1 k, LeO (encoding_encodeByteStreamSplitWidth8.f k a0 a1) (encoding_encodeByteStreamSplitWidth8.f (k + 1) a0 a1) := by
  intro a0 a1 k
  have ih0 := encoding_encodeByteStreamSplitWidth8.mono_l k
  unfold encoding_encodeByteStreamSplitWidth8.f
  repeat' first
      | (with_reducible exact ih0 _ _ _ _)
      | (with_reducible exact LeO.refl _)
      | (with_reducible exact LeO.none _)
      | (with_reducible refine LeO.ite ?_ ?_)
      | (with_reducible refine LeO.bind ?_ (fun _ => ?_))
      | exact ih0 _ _ _ _
      | exact LeO.none _
      | refine LeO.ite ?_ ?_
      | refine LeO.bind ?_ (fun _ => ?_)
set_option maxHeartbeats 8000000 in
set_option maxRecDepth 100000 in
theorem encoding_encodeByteStreamSplitWidth8.calls (k : Nat) (P0_ : Nat → Prop) (u9000_ : Value) (l0 : List Int) (A1 : Option Addr) (c1 : Nat) (l1 : List Int) (r : List Int) (w0 w : World) (hB : Below w0.heap.size w0 w) (ho0 : Kd.R (Kd.int .u8) 5 w w0.heap.size P0_ u9000_ l0) (hr1 : ∀ W_, Kept w W_ (fun k_ => P0_ k_) → Kd.C (Kd.int .u8) W_ A1 l1.length l1) (hc1 : l1.length ≤ c1) (h : encoding_encodeByteStreamSplitWidth8.f k l0 l1 = some r) :
    Calls Try.prog 76 #[u9000_, .slice A1 l1.length c1] w fun e w' => e = .returned (.tuple #[]) ∧ Kd.R (Kd.int .u8) 5 w' w0.heap.size (fun k_ => (P0_ k_ ∨ w.heap.size ≤ k_)) u9000_ r ∧ Below w0.heap.size w0 w' ∧ Kept w w' (fun k_ => P0_ k_) := by
  have HO0 := Aside0.mk (show Kd.R (Kd.int .u8) 5 w w0.heap.size (fun k_ => (P0_ k_ ∨ w.heap.size ≤ k_)) u9000_ l0 from Kd.R_mono ho0 (fun k_ hk => (.inl hk)))
  have HR1 := Aside0.mk hr1
  have HC1 := Aside0.mk hc1
  clear hr1 hc1
  have HK := Aside0.mk (Kept.refl w (fun k_ => P0_ k_))
  have HW0 := Aside0.mk hB.size
  have HB := Aside0.mk hB
  clear hB
  have H : (encoding_encodeByteStreamSplitWidth8.l0 k l0 l1 (wrap64 ((l1.length : Int) / 8)) 0) = some r := h
  clear h
  have H' := Aside0.mk H
  clear H
  obtain ⟨Ao3, co3, eo3⟩ := Kd.R_slice HO0.out
  subst eo3
  go_enter Try.func76, Try.ntmps76
  go_wp2_with (first | (go_at_call 87; (with_reducible refine (debug_Assert.calls _ _ _).mono ?_); rintro e w' ⟨rfl, ⟨nd, rfl⟩⟩) | ((with_reducible refine gate_callee (f := 87) rfl ?_); refine goesL_ _ rfl rfl Try.func87 (by kernel_rfl) rfl _ rfl (by (try simp only [List.map_toArray, List.map_cons, List.map_nil]); first | done | rfl) ?_; (with_reducible refine (debug_Assert.calls _ _ _).mono ?_); rintro e w' ⟨rfl, ⟨nd, rfl⟩⟩; refine ⟨_, rfl, ?_⟩))
  go_loopg [5] k (fun kq v5 w' => ∃ (x0_1 : List Int) (x5_1 : Int), v5 = .int .i64 x5_1 ∧ Aside0 (encoding_encodeByteStreamSplitWidth8.l0 kq x0_1 l1 (wrap64 ((l1.length : Int) / 8)) x5_1 = some r) ∧ Aside0 (kq ≤ k) ∧ Aside0 (Kd.R (Kd.int .u8) 5 w' w0.heap.size (fun k_ => (P0_ k_ ∨ w.heap.size ≤ k_)) (.slice Ao3 l0.length co3) x0_1) ∧ Aside0 (Kept w w' (fun k_ => P0_ k_)) ∧ Aside0 (Below w0.heap.size w0 w'))
  case atStart => exact ⟨(l0), (0), (by first | rfl | (simp; done) | (simp [*]; done)), H', ⟨Nat.le_refl _⟩, ⟨by (with_reducible repeat (first | apply Kd.R_alloc | apply Kd.R_drewN | apply Kd.R_drew)); exact HO0.out⟩, ⟨by repeat (first | (with_reducible first | exact HK.out | apply Kept.alloc | apply Kept.drewN | apply Kept.drew) | exact HK.out)⟩, ⟨by repeat (first | (with_reducible first | exact HB.out | apply below_alloc | apply pw_below_drewN | apply below_drew1) | exact HB.out)⟩⟩
  case round =>
    clear H'
    try clear c1
    try clear p2
    obtain ⟨x0_1, x5_1, rfl, HA, HK1, HO_0, HK, HB⟩ := hrel
    have hl0_1 := (Kd.R_reads' HO_0.out).1
    rw [hl0_1] at HO_0
    (try simp only [hl0_1])
    cases gk with
    | zero => exact absurd HA.out (by simp [encoding_encodeByteStreamSplitWidth8.l0])
    | succ k1 =>
      have H := HA.out
      clear HA
      simp only [encoding_encodeByteStreamSplitWidth8.l0] at H
      by_cases c4 : x5_1 < (wrap64 ((l1.length : Int) / 8))
      · rw [if_pos c4] at H
        have c4b0 : decide (x5_1 < (wrap64 ((l1.length : Int) / 8))) = true := decide_eq_true c4
        clear c4
        obtain ⟨ji5, hji5⟩ : ∃ j_ : Int, (wrap64 (8 * x5_1)) = j_ := ⟨_, rfl⟩
        replace H : (if 0 ≤ (ji5) then (if (ji5) < (l1.length : Int) then (if 0 ≤ x5_1 then (if x5_1 < (x0_1.length : Int) then (if 0 ≤ (wrap64 ((ji5) + 1)) then (if (wrap64 ((ji5) + 1)) < (l1.length : Int) then (if 0 ≤ (wrap64 ((wrap64 ((l1.length : Int) / 8)) + x5_1)) then (if (wrap64 ((wrap64 ((l1.length : Int) / 8)) + x5_1)) < (x0_1.length : Int) then (if 0 ≤ (wrap64 ((ji5) + 2)) then (if (wrap64 ((ji5) + 2)) < (l1.length : Int) then (if 0 ≤ (wrap64 ((wrap64 ((wrap64 ((l1.length : Int) / 8)) * 2)) + x5_1)) then (if (wrap64 ((wrap64 ((wrap64 ((l1.length : Int) / 8)) * 2)) + x5_1)) < (x0_1.length : Int) then (if 0 ≤ (wrap64 ((ji5) + 3)) then (if (wrap64 ((ji5) + 3)) < (l1.length : Int) then (if 0 ≤ (wrap64 ((wrap64 ((wrap64 ((l1.length : Int) / 8)) * 3)) + x5_1)) then (if (wrap64 ((wrap64 ((wrap64 ((l1.length : Int) / 8)) * 3)) + x5_1)) < (x0_1.length : Int) then (if 0 ≤ (wrap64 ((ji5) + 4)) then (if (wrap64 ((ji5) + 4)) < (l1.length : Int) then (if 0 ≤ (wrap64 ((wrap64 ((wrap64 ((l1.length : Int) / 8)) * 4)) + x5_1)) then (if (wrap64 ((wrap64 ((wrap64 ((l1.length : Int) / 8)) * 4)) + x5_1)) < (x0_1.length : Int) then (if 0 ≤ (wrap64 ((ji5) + 5)) then (if (wrap64 ((ji5) + 5)) < (l1.length : Int) then (if 0 ≤ (wrap64 ((wrap64 ((wrap64 ((l1.length : Int) / 8)) * 5)) + x5_1)) then (if (wrap64 ((wrap64 ((wrap64 ((l1.length : Int) / 8)) * 5)) + x5_1)) < (x0_1.length : Int) then (if 0 ≤ (wrap64 ((ji5) + 6)) then (if (wrap64 ((ji5) + 6)) < (l1.length : Int) then (if 0 ≤ (wrap64 ((wrap64 ((wrap64 ((l1.length : Int) / 8)) * 6)) + x5_1)) then (if (wrap64 ((wrap64 ((wrap64 ((l1.length : Int) / 8)) * 6)) + x5_1)) < (x0_1.length : Int) then (if 0 ≤ (wrap64 ((ji5) + 7)) then (if (wrap64 ((ji5) + 7)) < (l1.length : Int) then (if 0 ≤ (wrap64 ((wrap64 ((wrap64 ((l1.length : Int) / 8)) * 7)) + x5_1)) then (if (wrap64 ((wrap64 ((wrap64 ((l1.length : Int) / 8)) * 7)) + x5_1)) < (x0_1.length : Int) then (encoding_encodeByteStreamSplitWidth8.l0 k1 ((((((((x0_1.set (x5_1 : Int).toNat (rd l1 (ji5))).set ((wrap64 ((wrap64 ((l1.length : Int) / 8)) + x5_1)) : Int).toNat (rd l1 (wrap64 ((ji5) + 1)))).set ((wrap64 ((wrap64 ((wrap64 ((l1.length : Int) / 8)) * 2)) + x5_1)) : Int).toNat (rd l1 (wrap64 ((ji5) + 2)))).set ((wrap64 ((wrap64 ((wrap64 ((l1.length : Int) / 8)) * 3)) + x5_1)) : Int).toNat (rd l1 (wrap64 ((ji5) + 3)))).set ((wrap64 ((wrap64 ((wrap64 ((l1.length : Int) / 8)) * 4)) + x5_1)) : Int).toNat (rd l1 (wrap64 ((ji5) + 4)))).set ((wrap64 ((wrap64 ((wrap64 ((l1.length : Int) / 8)) * 5)) + x5_1)) : Int).toNat (rd l1 (wrap64 ((ji5) + 5)))).set ((wrap64 ((wrap64 ((wrap64 ((l1.length : Int) / 8)) * 6)) + x5_1)) : Int).toNat (rd l1 (wrap64 ((ji5) + 6)))).set ((wrap64 ((wrap64 ((wrap64 ((l1.length : Int) / 8)) * 7)) + x5_1)) : Int).toNat (rd l1 (wrap64 ((ji5) + 7)))) l1 (wrap64 ((l1.length : Int) / 8)) (wrap64 (x5_1 + 1))) else (none)) else (none)) else (none)) else (none)) else (none)) else (none)) else (none)) else (none)) else (none)) else (none)) else (none)) else (none)) else (none)) else (none)) else (none)) else (none)) else (none)) else (none)) else (none)) else (none)) else (none)) else (none)) else (none)) else (none)) else (none)) else (none)) else (none)) else (none)) else (none)) else (none)) else (none)) else (none)) = some r := by first | (rw [hji5] at H; exact H) | (simp only [hji5] at H ⊢; exact H)
        have hji5w : (IntKind.i64.wrap (8 * x5_1)) = ji5 := (i64_w _).trans hji5
        by_cases c6 : 0 ≤ (ji5)
        · rw [if_pos c6] at H
          have c6b0 : decide (0 ≤ (ji5)) = true := decide_eq_true c6
          clear c6
          by_cases c7 : (ji5) < (l1.length : Int)
          · rw [if_pos c7] at H
            have c7b0 : decide ((ji5) < (l1.length : Int)) = true := decide_eq_true c7
            clear c7
            by_cases c8 : 0 ≤ x5_1
            · rw [if_pos c8] at H
              have c8b0 : decide (0 ≤ x5_1) = true := decide_eq_true c8
              clear c8
              by_cases c9 : x5_1 < (x0_1.length : Int)
              · rw [if_pos c9] at H
                have c9b0 : decide (x5_1 < (x0_1.length : Int)) = true := decide_eq_true c9
                clear c9
                obtain ⟨y114, hy114⟩ : ∃ y_ : List Int, y_ = (x0_1.set (x5_1 : Int).toNat (rd l1 (ji5))) := ⟨_, rfl⟩
                replace H : (if 0 ≤ (wrap64 ((ji5) + 1)) then (if (wrap64 ((ji5) + 1)) < (l1.length : Int) then (if 0 ≤ (wrap64 ((wrap64 ((l1.length : Int) / 8)) + x5_1)) then (if (wrap64 ((wrap64 ((l1.length : Int) / 8)) + x5_1)) < (x0_1.length : Int) then (if 0 ≤ (wrap64 ((ji5) + 2)) then (if (wrap64 ((ji5) + 2)) < (l1.length : Int) then (if 0 ≤ (wrap64 ((wrap64 ((wrap64 ((l1.length : Int) / 8)) * 2)) + x5_1)) then (if (wrap64 ((wrap64 ((wrap64 ((l1.length : Int) / 8)) * 2)) + x5_1)) < (x0_1.length : Int) then (if 0 ≤ (wrap64 ((ji5) + 3)) then (if (wrap64 ((ji5) + 3)) < (l1.length : Int) then (if 0 ≤ (wrap64 ((wrap64 ((wrap64 ((l1.length : Int) / 8)) * 3)) + x5_1)) then (if (wrap64 ((wrap64 ((wrap64 ((l1.length : Int) / 8)) * 3)) + x5_1)) < (x0_1.length : Int) then (if 0 ≤ (wrap64 ((ji5) + 4)) then (if (wrap64 ((ji5) + 4)) < (l1.length : Int) then (if 0 ≤ (wrap64 ((wrap64 ((wrap64 ((l1.length : Int) / 8)) * 4)) + x5_1)) then (if (wrap64 ((wrap64 ((wrap64 ((l1.length : Int) / 8)) * 4)) + x5_1)) < (x0_1.length : Int) then (if 0 ≤ (wrap64 ((ji5) + 5)) then (if (wrap64 ((ji5) + 5)) < (l1.length : Int) then (if 0 ≤ (wrap64 ((wrap64 ((wrap64 ((l1.length : Int) / 8)) * 5)) + x5_1)) then (if (wrap64 ((wrap64 ((wrap64 ((l1.length : Int) / 8)) * 5)) + x5_1)) < (x0_1.length : Int) then (if 0 ≤ (wrap64 ((ji5) + 6)) then (if (wrap64 ((ji5) + 6)) < (l1.length : Int) then (if 0 ≤ (wrap64 ((wrap64 ((wrap64 ((l1.length : Int) / 8)) * 6)) + x5_1)) then (if (wrap64 ((wrap64 ((wrap64 ((l1.length : Int) / 8)) * 6)) + x5_1)) < (x0_1.length : Int) then (if 0 ≤ (wrap64 ((ji5) + 7)) then (if (wrap64 ((ji5) + 7)) < (l1.length : Int) then (if 0 ≤ (wrap64 ((wrap64 ((wrap64 ((l1.length : Int) / 8)) * 7)) + x5_1)) then (if (wrap64 ((wrap64 ((wrap64 ((l1.length : Int) / 8)) * 7)) + x5_1)) < (x0_1.length : Int) then (encoding_encodeByteStreamSplitWidth8.l0 k1 (((((((y114.set ((wrap64 ((wrap64 ((l1.length : Int) / 8)) + x5_1)) : Int).toNat (rd l1 (wrap64 ((ji5) + 1)))).set ((wrap64 ((wrap64 ((wrap64 ((l1.length : Int) / 8)) * 2)) + x5_1)) : Int).toNat (rd l1 (wrap64 ((ji5) + 2)))).set ((wrap64 ((wrap64 ((wrap64 ((l1.length : Int) / 8)) * 3)) + x5_1)) : Int).toNat (rd l1 (wrap64 ((ji5) + 3)))).set ((wrap64 ((wrap64 ((wrap64 ((l1.length : Int) / 8)) * 4)) + x5_1)) : Int).toNat (rd l1 (wrap64 ((ji5) + 4)))).set ((wrap64 ((wrap64 ((wrap64 ((l1.length : Int) / 8)) * 5)) + x5_1)) : Int).toNat (rd l1 (wrap64 ((ji5) + 5)))).set ((wrap64 ((wrap64 ((wrap64 ((l1.length : Int) / 8)) * 6)) + x5_1)) : Int).toNat (rd l1 (wrap64 ((ji5) + 6)))).set ((wrap64 ((wrap64 ((wrap64 ((l1.length : Int) / 8)) * 7)) + x5_1)) : Int).toNat (rd l1 (wrap64 ((ji5) + 7)))) l1 (wrap64 ((l1.length : Int) / 8)) (wrap64 (x5_1 + 1))) else (none)) else (none)) else (none)) else (none)) else (none)) else (none)) else (none)) else (none)) else (none)) else (none)) else (none)) else (none)) else (none)) else (none)) else (none)) else (none)) else (none)) else (none)) else (none)) else (none)) else (none)) else (none)) else (none)) else (none)) else (none)) else (none)) else (none)) else (none)) = some r := by first | (rw [hy114]; with_reducible exact H) | (have H2_ := (Option.bind_some _ _).symm.trans H; rw [hy114]; with_reducible exact H2_) | (have H2_ := (Option.bind_some _ _).symm.trans H; with_reducible exact H2_) | with_reducible exact H | (rw [hy114]; exact H) | exact H
                have Ny114 := Aside0.mk hy114
                clear hy114
                obtain ⟨ji11, hji11⟩ : ∃ j_ : Int, (wrap64 ((ji5) + 1)) = j_ := ⟨_, rfl⟩
                replace H : (if 0 ≤ (ji11) then (if (ji11) < (l1.length : Int) then (if 0 ≤ (wrap64 ((wrap64 ((l1.length : Int) / 8)) + x5_1)) then (if (wrap64 ((wrap64 ((l1.length : Int) / 8)) + x5_1)) < (x0_1.length : Int) then (if 0 ≤ (wrap64 ((ji5) + 2)) then (if (wrap64 ((ji5) + 2)) < (l1.length : Int) then (if 0 ≤ (wrap64 ((wrap64 ((wrap64 ((l1.length : Int) / 8)) * 2)) + x5_1)) then (if (wrap64 ((wrap64 ((wrap64 ((l1.length : Int) / 8)) * 2)) + x5_1)) < (x0_1.length : Int) then (if 0 ≤ (wrap64 ((ji5) + 3)) then (if (wrap64 ((ji5) + 3)) < (l1.length : Int) then (if 0 ≤ (wrap64 ((wrap64 ((wrap64 ((l1.length : Int) / 8)) * 3)) + x5_1)) then (if (wrap64 ((wrap64 ((wrap64 ((l1.length : Int) / 8)) * 3)) + x5_1)) < (x0_1.length : Int) then (if 0 ≤ (wrap64 ((ji5) + 4)) then (if (wrap64 ((ji5) + 4)) < (l1.length : Int) then (if 0 ≤ (wrap64 ((wrap64 ((wrap64 ((l1.length : Int) / 8)) * 4)) + x5_1)) then (if (wrap64 ((wrap64 ((wrap64 ((l1.length : Int) / 8)) * 4)) + x5_1)) < (x0_1.length : Int) then (if 0 ≤ (wrap64 ((ji5) + 5)) then (if (wrap64 ((ji5) + 5)) < (l1.length : Int) then (if 0 ≤ (wrap64 ((wrap64 ((wrap64 ((l1.length : Int) / 8)) * 5)) + x5_1)) then (if (wrap64 ((wrap64 ((wrap64 ((l1.length : Int) / 8)) * 5)) + x5_1)) < (x0_1.length : Int) then (if 0 ≤ (wrap64 ((ji5) + 6)) then (if (wrap64 ((ji5) + 6)) < (l1.length : Int) then (if 0 ≤ (wrap64 ((wrap64 ((wrap64 ((l1.length : Int) / 8)) * 6)) + x5_1)) then (if (wrap64 ((wrap64 ((wrap64 ((l1.length : Int) / 8)) * 6)) + x5_1)) < (x0_1.length : Int) then (if 0 ≤ (wrap64 ((ji5) + 7)) then (if (wrap64 ((ji5) + 7)) < (l1.length : Int) then (if 0 ≤ (wrap64 ((wrap64 ((wrap64 ((l1.length : Int) / 8)) * 7)) + x5_1)) then (if (wrap64 ((wrap64 ((wrap64 ((l1.length : Int) / 8)) * 7)) + x5_1)) < (x0_1.length : Int) then (encoding_encodeByteStreamSplitWidth8.l0 k1 (((((((y114.set ((wrap64 ((wrap64 ((l1.length : Int) / 8)) + x5_1)) : Int).toNat (rd l1 (ji11))).set ((wrap64 ((wrap64 ((wrap64 ((l1.length : Int) / 8)) * 2)) + x5_1)) : Int).toNat (rd l1 (wrap64 ((ji5) + 2)))).set ((wrap64 ((wrap64 ((wrap64 ((l1.length : Int) / 8)) * 3)) + x5_1)) : Int).toNat (rd l1 (wrap64 ((ji5) + 3)))).set ((wrap64 ((wrap64 ((wrap64 ((l1.length : Int) / 8)) * 4)) + x5_1)) : Int).toNat (rd l1 (wrap64 ((ji5) + 4)))).set ((wrap64 ((wrap64 ((wrap64 ((l1.length : Int) / 8)) * 5)) + x5_1)) : Int).toNat (rd l1 (wrap64 ((ji5) + 5)))).set ((wrap64 ((wrap64 ((wrap64 ((l1.length : Int) / 8)) * 6)) + x5_1)) : Int).toNat (rd l1 (wrap64 ((ji5) + 6)))).set ((wrap64 ((wrap64 ((wrap64 ((l1.length : Int) / 8)) * 7)) + x5_1)) : Int).toNat (rd l1 (wrap64 ((ji5) + 7)))) l1 (wrap64 ((l1.length : Int) / 8)) (wrap64 (x5_1 + 1))) else (none)) else (none)) else (none)) else (none)) else (none)) else (none)) else (none)) else (none)) else (none)) else (none)) else (none)) else (none)) else (none)) else (none)) else (none)) else (none)) else (none)) else (none)) else (none)) else (none)) else (none)) else (none)) else (none)) else (none)) else (none)) else (none)) else (none)) else (none)) = some r := by first | (rw [hji11] at H; exact H) | (simp only [hji11] at H ⊢; exact H)
                have hji11w : (IntKind.i64.wrap ((ji5) + 1)) = ji11 := (i64_w _).trans hji11
                by_cases c12 : 0 ≤ (ji11)
                · rw [if_pos c12] at H
                  have c12b0 : decide (0 ≤ (ji11)) = true := decide_eq_true c12
                  clear c12
                  by_cases c13 : (ji11) < (l1.length : Int)
                  · rw [if_pos c13] at H
                    have c13b0 : decide ((ji11) < (l1.length : Int)) = true := decide_eq_true c13
                    clear c13
                    obtain ⟨ji14, hji14⟩ : ∃ j_ : Int, (wrap64 ((wrap64 ((l1.length : Int) / 8)) + x5_1)) = j_ := ⟨_, rfl⟩
                    replace H : (if 0 ≤ (ji14) then (if (ji14) < (x0_1.length : Int) then (if 0 ≤ (wrap64 ((ji5) + 2)) then (if (wrap64 ((ji5) + 2)) < (l1.length : Int) then (if 0 ≤ (wrap64 ((wrap64 ((wrap64 ((l1.length : Int) / 8)) * 2)) + x5_1)) then (if (wrap64 ((wrap64 ((wrap64 ((l1.length : Int) / 8)) * 2)) + x5_1)) < (x0_1.length : Int) then (if 0 ≤ (wrap64 ((ji5) + 3)) then (if (wrap64 ((ji5) + 3)) < (l1.length : Int) then (if 0 ≤ (wrap64 ((wrap64 ((wrap64 ((l1.length : Int) / 8)) * 3)) + x5_1)) then (if (wrap64 ((wrap64 ((wrap64 ((l1.length : Int) / 8)) * 3)) + x5_1)) < (x0_1.length : Int) then (if 0 ≤ (wrap64 ((ji5) + 4)) then (if (wrap64 ((ji5) + 4)) < (l1.length : Int) then (if 0 ≤ (wrap64 ((wrap64 ((wrap64 ((l1.length : Int) / 8)) * 4)) + x5_1)) then (if (wrap64 ((wrap64 ((wrap64 ((l1.length : Int) / 8)) * 4)) + x5_1)) < (x0_1.length : Int) then (if 0 ≤ (wrap64 ((ji5) + 5)) then (if (wrap64 ((ji5) + 5)) < (l1.length : Int) then (if 0 ≤ (wrap64 ((wrap64 ((wrap64 ((l1.length : Int) / 8)) * 5)) + x5_1)) then (if (wrap64 ((wrap64 ((wrap64 ((l1.length : Int) / 8)) * 5)) + x5_1)) < (x0_1.length : Int) then (if 0 ≤ (wrap64 ((ji5) + 6)) then (if (wrap64 ((ji5) + 6)) < (l1.length : Int) then (if 0 ≤ (wrap64 ((wrap64 ((wrap64 ((l1.length : Int) / 8)) * 6)) + x5_1)) then (if (wrap64 ((wrap64 ((wrap64 ((l1.length : Int) / 8)) * 6)) + x5_1)) < (x0_1.length : Int) then (if 0 ≤ (wrap64 ((ji5) + 7)) then (if (wrap64 ((ji5) + 7)) < (l1.length : Int) then (if 0 ≤ (wrap64 ((wrap64 ((wrap64 ((l1.length : Int) / 8)) * 7)) + x5_1)) then (if (wrap64 ((wrap64 ((wrap64 ((l1.length : Int) / 8)) * 7)) + x5_1)) < (x0_1.length : Int) then (encoding_encodeByteStreamSplitWidth8.l0 k1 (((((((y114.set ((ji14) : Int).toNat (rd l1 (ji11))).set ((wrap64 ((wrap64 ((wrap64 ((l1.length : Int) / 8)) * 2)) + x5_1)) : Int).toNat (rd l1 (wrap64 ((ji5) + 2)))).set ((wrap64 ((wrap64 ((wrap64 ((l1.length : Int) / 8)) * 3)) + x5_1)) : Int).toNat (rd l1 (wrap64 ((ji5) + 3)))).set ((wrap64 ((wrap64 ((wrap64 ((l1.length : Int) / 8)) * 4)) + x5_1)) : Int).toNat (rd l1 (wrap64 ((ji5) + 4)))).set ((wrap64 ((wrap64 ((wrap64 ((l1.length : Int) / 8)) * 5)) + x5_1)) : Int).toNat (rd l1 (wrap64 ((ji5) + 5)))).set ((wrap64 ((wrap64 ((wrap64 ((l1.length : Int) / 8)) * 6)) + x5_1)) : Int).toNat (rd l1 (wrap64 ((ji5) + 6)))).set ((wrap64 ((wrap64 ((wrap64 ((l1.length : Int) / 8)) * 7)) + x5_1)) : Int).toNat (rd l1 (wrap64 ((ji5) + 7)))) l1 (wrap64 ((l1.length : Int) / 8)) (wrap64 (x5_1 + 1))) else (none)) else (none)) else (none)) else (none)) else (none)) else (none)) else (none)) else (none)) else (none)) else (none)) else (none)) else (none)) else (none)) else (none)) else (none)) else (none)) else (none)) else (none)) else (none)) else (none)) else (none)) else (none)) else (none)) else (none)) else (none)) else (none)) = some r := by first | (rw [hji14] at H; exact H) | (simp only [hji14] at H ⊢; exact H)
                    have hji14w : (IntKind.i64.wrap ((wrap64 ((l1.length : Int) / 8)) + x5_1)) = ji14 := (i64_w _).trans hji14
                    by_cases c15 : 0 ≤ (ji14)
                    · rw [if_pos c15] at H
                      have c15b0 : decide (0 ≤ (ji14)) = true := decide_eq_true c15
                      clear c15
                      by_cases c16 : (ji14) < (x0_1.length : Int)
                      · rw [if_pos c16] at H
                        have c16b0 : decide ((ji14) < (x0_1.length : Int)) = true := decide_eq_true c16
                        clear c16
                        obtain ⟨y116, hy116⟩ : ∃ y_ : List Int, y_ = (y114.set ((ji14) : Int).toNat (rd l1 (ji11))) := ⟨_, rfl⟩
                        replace H : (if 0 ≤ (wrap64 ((ji5) + 2)) then (if (wrap64 ((ji5) + 2)) < (l1.length : Int) then (if 0 ≤ (wrap64 ((wrap64 ((wrap64 ((l1.length : Int) / 8)) * 2)) + x5_1)) then (if (wrap64 ((wrap64 ((wrap64 ((l1.length : Int) / 8)) * 2)) + x5_1)) < (x0_1.length : Int) then (if 0 ≤ (wrap64 ((ji5) + 3)) then (if (wrap64 ((ji5) + 3)) < (l1.length : Int) then (if 0 ≤ (wrap64 ((wrap64 ((wrap64 ((l1.length : Int) / 8)) * 3)) + x5_1)) then (if (wrap64 ((wrap64 ((wrap64 ((l1.length : Int) / 8)) * 3)) + x5_1)) < (x0_1.length : Int) then (if 0 ≤ (wrap64 ((ji5) + 4)) then (if (wrap64 ((ji5) + 4)) < (l1.length : Int) then (if 0 ≤ (wrap64 ((wrap64 ((wrap64 ((l1.length : Int) / 8)) * 4)) + x5_1)) then (if (wrap64 ((wrap64 ((wrap64 ((l1.length : Int) / 8)) * 4)) + x5_1)) < (x0_1.length : Int) then (if 0 ≤ (wrap64 ((ji5) + 5)) then (if (wrap64 ((ji5) + 5)) < (l1.length : Int) then (if 0 ≤ (wrap64 ((wrap64 ((wrap64 ((l1.length : Int) / 8)) * 5)) + x5_1)) then (if (wrap64 ((wrap64 ((wrap64 ((l1.length : Int) / 8)) * 5)) + x5_1)) < (x0_1.length : Int) then (if 0 ≤ (wrap64 ((ji5) + 6)) then (if (wrap64 ((ji5) + 6)) < (l1.length : Int) then (if 0 ≤ (wrap64 ((wrap64 ((wrap64 ((l1.length : Int) / 8)) * 6)) + x5_1)) then (if (wrap64 ((wrap64 ((wrap64 ((l1.length : Int) / 8)) * 6)) + x5_1)) < (x0_1.length : Int) then (if 0 ≤ (wrap64 ((ji5) + 7)) then (if (wrap64 ((ji5) + 7)) < (l1.length : Int) then (if 0 ≤ (wrap64 ((wrap64 ((wrap64 ((l1.length : Int) / 8)) * 7)) + x5_1)) then (if (wrap64 ((wrap64 ((wrap64 ((l1.length : Int) / 8)) * 7)) + x5_1)) < (x0_1.length : Int) then (encoding_encodeByteStreamSplitWidth8.l0 k1 ((((((y116.set ((wrap64 ((wrap64 ((wrap64 ((l1.length : Int) / 8)) * 2)) + x5_1)) : Int).toNat (rd l1 (wrap64 ((ji5) + 2)))).set ((wrap64 ((wrap64 ((wrap64 ((l1.length : Int) / 8)) * 3)) + x5_1)) : Int).toNat (rd l1 (wrap64 ((ji5) + 3)))).set ((wrap64 ((wrap64 ((wrap64 ((l1.length : Int) / 8)) * 4)) + x5_1)) : Int).toNat (rd l1 (wrap64 ((ji5) + 4)))).set ((wrap64 ((wrap64 ((wrap64 ((l1.length : Int) / 8)) * 5)) + x5_1)) : Int).toNat (rd l1 (wrap64 ((ji5) + 5)))).set ((wrap64 ((wrap64 ((wrap64 ((l1.length : Int) / 8)) * 6)) + x5_1)) : Int).toNat (rd l1 (wrap64 ((ji5) + 6)))).set ((wrap64 ((wrap64 ((wrap64 ((l1.length : Int) / 8)) * 7)) + x5_1)) : Int).toNat (rd l1 (wrap64 ((ji5) + 7)))) l1 (wrap64 ((l1.length : Int) / 8)) (wrap64 (x5_1 + 1))) else (none)) else (none)) else (none)) else (none)) else (none)) else (none)) else (none)) else (none)) else (none)) else (none)) else (none)) else (none)) else (none)) else (none)) else (none)) else (none)) else (none)) else (none)) else (none)) else (none)) else (none)) else (none)) else (none)) else (none)) = some r := by first | (rw [hy116]; with_reducible exact H) | (have H2_ := (Option.bind_some _ _).symm.trans H; rw [hy116]; with_reducible exact H2_) | (have H2_ := (Option.bind_some _ _).symm.trans H; with_reducible exact H2_) | with_reducible exact H | (rw [hy116]; exact H) | exact H
                        have Ny116 := Aside0.mk hy116
                        clear hy116
                        obtain ⟨ji18, hji18⟩ : ∃ j_ : Int, (wrap64 ((ji5) + 2)) = j_ := ⟨_, rfl⟩
                        replace H : (if 0 ≤ (ji18) then (if (ji18) < (l1.length : Int) then (if 0 ≤ (wrap64 ((wrap64 ((wrap64 ((l1.length : Int) / 8)) * 2)) + x5_1)) then (if (wrap64 ((wrap64 ((wrap64 ((l1.length : Int) / 8)) * 2)) + x5_1)) < (x0_1.length : Int) then (if 0 ≤ (wrap64 ((ji5) + 3)) then (if (wrap64 ((ji5) + 3)) < (l1.length : Int) then (if 0 ≤ (wrap64 ((wrap64 ((wrap64 ((l1.length : Int) / 8)) * 3)) + x5_1)) then (if (wrap64 ((wrap64 ((wrap64 ((l1.length : Int) / 8)) * 3)) + x5_1)) < (x0_1.length : Int) then (if 0 ≤ (wrap64 ((ji5) + 4)) then (if (wrap64 ((ji5) + 4)) < (l1.length : Int) then (if 0 ≤ (wrap64 ((wrap64 ((wrap64 ((l1.length : Int) / 8)) * 4)) + x5_1)) then (if (wrap64 ((wrap64 ((wrap64 ((l1.length : Int) / 8)) * 4)) + x5_1)) < (x0_1.length : Int) then (if 0 ≤ (wrap64 ((ji5) + 5)) then (if (wrap64 ((ji5) + 5)) < (l1.length : Int) then (if 0 ≤ (wrap64 ((wrap64 ((wrap64 ((l1.length : Int) / 8)) * 5)) + x5_1)) then (if (wrap64 ((wrap64 ((wrap64 ((l1.length : Int) / 8)) * 5)) + x5_1)) < (x0_1.length : Int) then (if 0 ≤ (wrap64 ((ji5) + 6)) then (if (wrap64 ((ji5) + 6)) < (l1.length : Int) then (if 0 ≤ (wrap64 ((wrap64 ((wrap64 ((l1.length : Int) / 8)) * 6)) + x5_1)) then (if (wrap64 ((wrap64 ((wrap64 ((l1.length : Int) / 8)) * 6)) + x5_1)) < (x0_1.length : Int) then (if 0 ≤ (wrap64 ((ji5) + 7)) then (if (wrap64 ((ji5) + 7)) < (l1.length : Int) then (if 0 ≤ (wrap64 ((wrap64 ((wrap64 ((l1.length : Int) / 8)) * 7)) + x5_1)) then (if (wrap64 ((wrap64 ((wrap64 ((l1.length : Int) / 8)) * 7)) + x5_1)) < (x0_1.length : Int) then (encoding_encodeByteStreamSplitWidth8.l0 k1 ((((((y116.set ((wrap64 ((wrap64 ((wrap64 ((l1.length : Int) / 8)) * 2)) + x5_1)) : Int).toNat (rd l1 (ji18))).set ((wrap64 ((wrap64 ((wrap64 ((l1.length : Int) / 8)) * 3)) + x5_1)) : Int).toNat (rd l1 (wrap64 ((ji5) + 3)))).set ((wrap64 ((wrap64 ((wrap64 ((l1.length : Int) / 8)) * 4)) + x5_1)) : Int).toNat (rd l1 (wrap64 ((ji5) + 4)))).set ((wrap64 ((wrap64 ((wrap64 ((l1.length : Int) / 8)) * 5)) + x5_1)) : Int).toNat (rd l1 (wrap64 ((ji5) + 5)))).set ((wrap64 ((wrap64 ((wrap64 ((l1.length : Int) / 8)) * 6)) + x5_1)) : Int).toNat (rd l1 (wrap64 ((ji5) + 6)))).set ((wrap64 ((wrap64 ((wrap64 ((l1.length : Int) / 8)) * 7)) + x5_1)) : Int).toNat (rd l1 (wrap64 ((ji5) + 7)))) l1 (wrap64 ((l1.length : Int) / 8)) (wrap64 (x5_1 + 1))) else (none)) else (none)) else (none)) else (none)) else (none)) else (none)) else (none)) else (none)) else (none)) else (none)) else (none)) else (none)) else (none)) else (none)) else (none)) else (none)) else (none)) else (none)) else (none)) else (none)) else (none)) else (none)) else (none)) else (none)) = some r := by first | (rw [hji18] at H; exact H) | (simp only [hji18] at H ⊢; exact H)
                        have hji18w : (IntKind.i64.wrap ((ji5) + 2)) = ji18 := (i64_w _).trans hji18
                        by_cases c19 : 0 ≤ (ji18)
                        · rw [if_pos c19] at H
                          have c19b0 : decide (0 ≤ (ji18)) = true := decide_eq_true c19
                          clear c19
                          by_cases c20 : (ji18) < (l1.length : Int)
                          · rw [if_pos c20] at H
                            have c20b0 : decide ((ji18) < (l1.length : Int)) = true := decide_eq_true c20
                            clear c20
                            obtain ⟨ji21, hji21⟩ : ∃ j_ : Int, (wrap64 ((wrap64 ((wrap64 ((l1.length : Int) / 8)) * 2)) + x5_1)) = j_ := ⟨_, rfl⟩
                            replace H : (if 0 ≤ (ji21) then (if (ji21) < (x0_1.length : Int) then (if 0 ≤ (wrap64 ((ji5) + 3)) then (if (wrap64 ((ji5) + 3)) < (l1.length : Int) then (if 0 ≤ (wrap64 ((wrap64 ((wrap64 ((l1.length : Int) / 8)) * 3)) + x5_1)) then (if (wrap64 ((wrap64 ((wrap64 ((l1.length : Int) / 8)) * 3)) + x5_1)) < (x0_1.length : Int) then (if 0 ≤ (wrap64 ((ji5) + 4)) then (if (wrap64 ((ji5) + 4)) < (l1.length : Int) then (if 0 ≤ (wrap64 ((wrap64 ((wrap64 ((l1.length : Int) / 8)) * 4)) + x5_1)) then (if (wrap64 ((wrap64 ((wrap64 ((l1.length : Int) / 8)) * 4)) + x5_1)) < (x0_1.length : Int) then (if 0 ≤ (wrap64 ((ji5) + 5)) then (if (wrap64 ((ji5) + 5)) < (l1.length : Int) then (if 0 ≤ (wrap64 ((wrap64 ((wrap64 ((l1.length : Int) / 8)) * 5)) + x5_1)) then (if (wrap64 ((wrap64 ((wrap64 ((l1.length : Int) / 8)) * 5)) + x5_1)) < (x0_1.length : Int) then (if 0 ≤ (wrap64 ((ji5) + 6)) then (if (wrap64 ((ji5) + 6)) < (l1.length : Int) then (if 0 ≤ (wrap64 ((wrap64 ((wrap64 ((l1.length : Int) / 8)) * 6)) + x5_1)) then (if (wrap64 ((wrap64 ((wrap64 ((l1.length : Int) / 8)) * 6)) + x5_1)) < (x0_1.length : Int) then (if 0 ≤ (wrap64 ((ji5) + 7)) then (if (wrap64 ((ji5) + 7)) < (l1.length : Int) then (if 0 ≤ (wrap64 ((wrap64 ((wrap64 ((l1.length : Int) / 8)) * 7)) + x5_1)) then (if (wrap64 ((wrap64 ((wrap64 ((l1.length : Int) / 8)) * 7)) + x5_1)) < (x0_1.length : Int) then (encoding_encodeByteStreamSplitWidth8.l0 k1 ((((((y116.set ((ji21) : Int).toNat (rd l1 (ji18))).set ((wrap64 ((wrap64 ((wrap64 ((l1.length : Int) / 8)) * 3)) + x5_1)) : Int).toNat (rd l1 (wrap64 ((ji5) + 3)))).set ((wrap64 ((wrap64 ((wrap64 ((l1.length : Int) / 8)) * 4)) + x5_1)) : Int).toNat (rd l1 (wrap64 ((ji5) + 4)))).set ((wrap64 ((wrap64 ((wrap64 ((l1.length : Int) / 8)) * 5)) + x5_1)) : Int).toNat (rd l1 (wrap64 ((ji5) + 5)))).set ((wrap64 ((wrap64 ((wrap64 ((l1.length : Int) / 8)) * 6)) + x5_1)) : Int).toNat (rd l1 (wrap64 ((ji5) + 6)))).set ((wrap64 ((wrap64 ((wrap64 ((l1.length : Int) / 8)) * 7)) + x5_1)) : Int).toNat (rd l1 (wrap64 ((ji5) + 7)))) l1 (wrap64 ((l1.length : Int) / 8)) (wrap64 (x5_1 + 1))) else (none)) else (none)) else (none)) else (none)) else (none)) else (none)) else (none)) else (none)) else (none)) else (none)) else (none)) else (none)) else (none)) else (none)) else (none)) else (none)) else (none)) else (none)) else (none)) else (none)) else (none)) else (none)) = some r := by first | (rw [hji21] at H; exact H) | (simp only [hji21] at H ⊢; exact H)
                            have hji21w : (IntKind.i64.wrap ((wrap64 ((wrap64 ((l1.length : Int) / 8)) * 2)) + x5_1)) = ji21 := (i64_w _).trans hji21
                            by_cases c22 : 0 ≤ (ji21)
                            · rw [if_pos c22] at H
                              have c22b0 : decide (0 ≤ (ji21)) = true := decide_eq_true c22
                              clear c22
                              by_cases c23 : (ji21) < (x0_1.length : Int)
                              · rw [if_pos c23] at H
                                have c23b0 : decide ((ji21) < (x0_1.length : Int)) = true := decide_eq_true c23
                                clear c23
                                obtain ⟨y118, hy118⟩ : ∃ y_ : List Int, y_ = (y116.set ((ji21) : Int).toNat (rd l1 (ji18))) := ⟨_, rfl⟩
                                replace H : (if 0 ≤ (wrap64 ((ji5) + 3)) then (if (wrap64 ((ji5) + 3)) < (l1.length : Int) then (if 0 ≤ (wrap64 ((wrap64 ((wrap64 ((l1.length : Int) / 8)) * 3)) + x5_1)) then (if (wrap64 ((wrap64 ((wrap64 ((l1.length : Int) / 8)) * 3)) + x5_1)) < (x0_1.length : Int) then (if 0 ≤ (wrap64 ((ji5) + 4)) then (if (wrap64 ((ji5) + 4)) < (l1.length : Int) then (if 0 ≤ (wrap64 ((wrap64 ((wrap64 ((l1.length : Int) / 8)) * 4)) + x5_1)) then (if (wrap64 ((wrap64 ((wrap64 ((l1.length : Int) / 8)) * 4)) + x5_1)) < (x0_1.length : Int) then (if 0 ≤ (wrap64 ((ji5) + 5)) then (if (wrap64 ((ji5) + 5)) < (l1.length : Int) then (if 0 ≤ (wrap64 ((wrap64 ((wrap64 ((l1.length : Int) / 8)) * 5)) + x5_1)) then (if (wrap64 ((wrap64 ((wrap64 ((l1.length : Int) / 8)) * 5)) + x5_1)) < (x0_1.length : Int) then (if 0 ≤ (wrap64 ((ji5) + 6)) then (if (wrap64 ((ji5) + 6)) < (l1.length : Int) then (if 0 ≤ (wrap64 ((wrap64 ((wrap64 ((l1.length : Int) / 8)) * 6)) + x5_1)) then (if (wrap64 ((wrap64 ((wrap64 ((l1.length : Int) / 8)) * 6)) + x5_1)) < (x0_1.length : Int) then (if 0 ≤ (wrap64 ((ji5) + 7)) then (if (wrap64 ((ji5) + 7)) < (l1.length : Int) then (if 0 ≤ (wrap64 ((wrap64 ((wrap64 ((l1.length : Int) / 8)) * 7)) + x5_1)) then (if (wrap64 ((wrap64 ((wrap64 ((l1.length : Int) / 8)) * 7)) + x5_1)) < (x0_1.length : Int) then (encoding_encodeByteStreamSplitWidth8.l0 k1 (((((y118.set ((wrap64 ((wrap64 ((wrap64 ((l1.length : Int) / 8)) * 3)) + x5_1)) : Int).toNat (rd l1 (wrap64 ((ji5) + 3)))).set ((wrap64 ((wrap64 ((wrap64 ((l1.length : Int) / 8)) * 4)) + x5_1)) : Int).toNat (rd l1 (wrap64 ((ji5) + 4)))).set ((wrap64 ((wrap64 ((wrap64 ((l1.length : Int) / 8)) * 5)) + x5_1)) : Int).toNat (rd l1 (wrap64 ((ji5) + 5)))).set ((wrap64 ((wrap64 ((wrap64 ((l1.length : Int) / 8)) * 6)) + x5_1)) : Int).toNat (rd l1 (wrap64 ((ji5) + 6)))).set ((wrap64 ((wrap64 ((wrap64 ((l1.length : Int) / 8)) * 7)) + x5_1)) : Int).toNat (rd l1 (wrap64 ((ji5) + 7)))) l1 (wrap64 ((l1.length : Int) / 8)) (wrap64 (x5_1 + 1))) else (none)) else (none)) else (none)) else (none)) else (none)) else (none)) else (none)) else (none)) else (none)) else (none)) else (none)) else (none)) else (none)) else (none)) else (none)) else (none)) else (none)) else (none)) else (none)) else (none)) = some r := by first | (rw [hy118]; with_reducible exact H) | (have H2_ := (Option.bind_some _ _).symm.trans H; rw [hy118]; with_reducible exact H2_) | (have H2_ := (Option.bind_some _ _).symm.trans H; with_reducible exact H2_) | with_reducible exact H | (rw [hy118]; exact H) | exact H
                                have Ny118 := Aside0.mk hy118
                                clear hy118
                                obtain ⟨ji25, hji25⟩ : ∃ j_ : Int, (wrap64 ((ji5) + 3)) = j_ := ⟨_, rfl⟩
                                replace H : (if 0 ≤ (ji25) then (if (ji25) < (l1.length : Int) then (if 0 ≤ (wrap64 ((wrap64 ((wrap64 ((l1.length : Int) / 8)) * 3)) + x5_1)) then (if (wrap64 ((wrap64 ((wrap64 ((l1.length : Int) / 8)) * 3)) + x5_1)) < (x0_1.length : Int) then (if 0 ≤ (wrap64 ((ji5) + 4)) then (if (wrap64 ((ji5) + 4)) < (l1.length : Int) then (if 0 ≤ (wrap64 ((wrap64 ((wrap64 ((l1.length : Int) / 8)) * 4)) + x5_1)) then (if (wrap64 ((wrap64 ((wrap64 ((l1.length : Int) / 8)) * 4)) + x5_1)) < (x0_1.length : Int) then (if 0 ≤ (wrap64 ((ji5) + 5)) then (if (wrap64 ((ji5) + 5)) < (l1.length : Int) then (if 0 ≤ (wrap64 ((wrap64 ((wrap64 ((l1.length : Int) / 8)) * 5)) + x5_1)) then (if (wrap64 ((wrap64 ((wrap64 ((l1.length : Int) / 8)) * 5)) + x5_1)) < (x0_1.length : Int) then (if 0 ≤ (wrap64 ((ji5) + 6)) then (if (wrap64 ((ji5) + 6)) < (l1.length : Int) then (if 0 ≤ (wrap64 ((wrap64 ((wrap64 ((l1.length : Int) / 8)) * 6)) + x5_1)) then (if (wrap64 ((wrap64 ((wrap64 ((l1.length : Int) / 8)) * 6)) + x5_1)) < (x0_1.length : Int) then (if 0 ≤ (wrap64 ((ji5) + 7)) then (if (wrap64 ((ji5) + 7)) < (l1.length : Int) then (if 0 ≤ (wrap64 ((wrap64 ((wrap64 ((l1.length : Int) / 8)) * 7)) + x5_1)) then (if (wrap64 ((wrap64 ((wrap64 ((l1.length : Int) / 8)) * 7)) + x5_1)) < (x0_1.length : Int) then (encoding_encodeByteStreamSplitWidth8.l0 k1 (((((y118.set ((wrap64 ((wrap64 ((wrap64 ((l1.length : Int) / 8)) * 3)) + x5_1)) : Int).toNat (rd l1 (ji25))).set ((wrap64 ((wrap64 ((wrap64 ((l1.length : Int) / 8)) * 4)) + x5_1)) : Int).toNat (rd l1 (wrap64 ((ji5) + 4)))).set ((wrap64 ((wrap64 ((wrap64 ((l1.length : Int) / 8)) * 5)) + x5_1)) : Int).toNat (rd l1 (wrap64 ((ji5) + 5)))).set ((wrap64 ((wrap64 ((wrap64 ((l1.length : Int) / 8)) * 6)) + x5_1)) : Int).toNat (rd l1 (wrap64 ((ji5) + 6)))).set ((wrap64 ((wrap64 ((wrap64 ((l1.length : Int) / 8)) * 7)) + x5_1)) : Int).toNat (rd l1 (wrap64 ((ji5) + 7)))) l1 (wrap64 ((l1.length : Int) / 8)) (wrap64 (x5_1 + 1))) else (none)) else (none)) else (none)) else (none)) else (none)) else (none)) else (none)) else (none)) else (none)) else (none)) else (none)) else (none)) else (none)) else (none)) else (none)) else (none)) else (none)) else (none)) else (none)) else (none)) = some r := by first | (rw [hji25] at H; exact H) | (simp only [hji25] at H ⊢; exact H)
                                have hji25w : (IntKind.i64.wrap ((ji5) + 3)) = ji25 := (i64_w _).trans hji25
                                by_cases c26 : 0 ≤ (ji25)
                                · rw [if_pos c26] at H
                                  have c26b0 : decide (0 ≤ (ji25)) = true := decide_eq_true c26
                                  clear c26
                                  by_cases c27 : (ji25) < (l1.length : Int)
                                  · rw [if_pos c27] at H
                                    have c27b0 : decide ((ji25) < (l1.length : Int)) = true := decide_eq_true c27
                                    clear c27
                                    obtain ⟨ji28, hji28⟩ : ∃ j_ : Int, (wrap64 ((wrap64 ((wrap64 ((l1.length : Int) / 8)) * 3)) + x5_1)) = j_ := ⟨_, rfl⟩
                                    replace H : (if 0 ≤ (ji28) then (if (ji28) < (x0_1.length : Int) then (if 0 ≤ (wrap64 ((ji5) + 4)) then (if (wrap64 ((ji5) + 4)) < (l1.length : Int) then (if 0 ≤ (wrap64 ((wrap64 ((wrap64 ((l1.length : Int) / 8)) * 4)) + x5_1)) then (if (wrap64 ((wrap64 ((wrap64 ((l1.length : Int) / 8)) * 4)) + x5_1)) < (x0_1.length : Int) then (if 0 ≤ (wrap64 ((ji5) + 5)) then (if (wrap64 ((ji5) + 5)) < (l1.length : Int) then (if 0 ≤ (wrap64 ((wrap64 ((wrap64 ((l1.length : Int) / 8)) * 5)) + x5_1)) then (if (wrap64 ((wrap64 ((wrap64 ((l1.length : Int) / 8)) * 5)) + x5_1)) < (x0_1.length : Int) then (if 0 ≤ (wrap64 ((ji5) + 6)) then (if (wrap64 ((ji5) + 6)) < (l1.length : Int) then (if 0 ≤ (wrap64 ((wrap64 ((wrap64 ((l1.length : Int) / 8)) * 6)) + x5_1)) then (if (wrap64 ((wrap64 ((wrap64 ((l1.length : Int) / 8)) * 6)) + x5_1)) < (x0_1.length : Int) then (if 0 ≤ (wrap64 ((ji5) + 7)) then (if (wrap64 ((ji5) + 7)) < (l1.length : Int) then (if 0 ≤ (wrap64 ((wrap64 ((wrap64 ((l1.length : Int) / 8)) * 7)) + x5_1)) then (if (wrap64 ((wrap64 ((wrap64 ((l1.length : Int) / 8)) * 7)) + x5_1)) < (x0_1.length : Int) then (encoding_encodeByteStreamSplitWidth8.l0 k1 (((((y118.set ((ji28) : Int).toNat (rd l1 (ji25))).set ((wrap64 ((wrap64 ((wrap64 ((l1.length : Int) / 8)) * 4)) + x5_1)) : Int).toNat (rd l1 (wrap64 ((ji5) + 4)))).set ((wrap64 ((wrap64 ((wrap64 ((l1.length : Int) / 8)) * 5)) + x5_1)) : Int).toNat (rd l1 (wrap64 ((ji5) + 5)))).set ((wrap64 ((wrap64 ((wrap64 ((l1.length : Int) / 8)) * 6)) + x5_1)) : Int).toNat (rd l1 (wrap64 ((ji5) + 6)))).set ((wrap64 ((wrap64 ((wrap64 ((l1.length : Int) / 8)) * 7)) + x5_1)) : Int).toNat (rd l1 (wrap64 ((ji5) + 7)))) l1 (wrap64 ((l1.length : Int) / 8)) (wrap64 (x5_1 + 1))) else (none)) else (none)) else (none)) else (none)) else (none)) else (none)) else (none)) else (none)) else (none)) else (none)) else (none)) else (none)) else (none)) else (none)) else (none)) else (none)) else (none)) else (none)) = some r := by first | (rw [hji28] at H; exact H) | (simp only [hji28] at H ⊢; exact H)
                                    have hji28w : (IntKind.i64.wrap ((wrap64 ((wrap64 ((l1.length : Int) / 8)) * 3)) + x5_1)) = ji28 := (i64_w _).trans hji28
                                    by_cases c29 : 0 ≤ (ji28)
                                    · rw [if_pos c29] at H
                                      have c29b0 : decide (0 ≤ (ji28)) = true := decide_eq_true c29
                                      clear c29
                                      by_cases c30 : (ji28) < (x0_1.length : Int)
                                      · rw [if_pos c30] at H
                                        have c30b0 : decide ((ji28) < (x0_1.length : Int)) = true := decide_eq_true c30
                                        clear c30
                                        obtain ⟨y120, hy120⟩ : ∃ y_ : List Int, y_ = (y118.set ((ji28) : Int).toNat (rd l1 (ji25))) := ⟨_, rfl⟩
                                        replace H : (if 0 ≤ (wrap64 ((ji5) + 4)) then (if (wrap64 ((ji5) + 4)) < (l1.length : Int) then (if 0 ≤ (wrap64 ((wrap64 ((wrap64 ((l1.length : Int) / 8)) * 4)) + x5_1)) then (if (wrap64 ((wrap64 ((wrap64 ((l1.length : Int) / 8)) * 4)) + x5_1)) < (x0_1.length : Int) then (if 0 ≤ (wrap64 ((ji5) + 5)) then (if (wrap64 ((ji5) + 5)) < (l1.length : Int) then (if 0 ≤ (wrap64 ((wrap64 ((wrap64 ((l1.length : Int) / 8)) * 5)) + x5_1)) then (if (wrap64 ((wrap64 ((wrap64 ((l1.length : Int) / 8)) * 5)) + x5_1)) < (x0_1.length : Int) then (if 0 ≤ (wrap64 ((ji5) + 6)) then (if (wrap64 ((ji5) + 6)) < (l1.length : Int) then (if 0 ≤ (wrap64 ((wrap64 ((wrap64 ((l1.length : Int) / 8)) * 6)) + x5_1)) then (if (wrap64 ((wrap64 ((wrap64 ((l1.length : Int) / 8)) * 6)) + x5_1)) < (x0_1.length : Int) then (if 0 ≤ (wrap64 ((ji5) + 7)) then (if (wrap64 ((ji5) + 7)) < (l1.length : Int) then (if 0 ≤ (wrap64 ((wrap64 ((wrap64 ((l1.length : Int) / 8)) * 7)) + x5_1)) then (if (wrap64 ((wrap64 ((wrap64 ((l1.length : Int) / 8)) * 7)) + x5_1)) < (x0_1.length : Int) then (encoding_encodeByteStreamSplitWidth8.l0 k1 ((((y120.set ((wrap64 ((wrap64 ((wrap64 ((l1.length : Int) / 8)) * 4)) + x5_1)) : Int).toNat (rd l1 (wrap64 ((ji5) + 4)))).set ((wrap64 ((wrap64 ((wrap64 ((l1.length : Int) / 8)) * 5)) + x5_1)) : Int).toNat (rd l1 (wrap64 ((ji5) + 5)))).set ((wrap64 ((wrap64 ((wrap64 ((l1.length : Int) / 8)) * 6)) + x5_1)) : Int).toNat (rd l1 (wrap64 ((ji5) + 6)))).set ((wrap64 ((wrap64 ((wrap64 ((l1.length : Int) / 8)) * 7)) + x5_1)) : Int).toNat (rd l1 (wrap64 ((ji5) + 7)))) l1 (wrap64 ((l1.length : Int) / 8)) (wrap64 (x5_1 + 1))) else (none)) else (none)) else (none)) else (none)) else (none)) else (none)) else (none)) else (none)) else (none)) else (none)) else (none)) else (none)) else (none)) else (none)) else (none)) else (none)) = some r := by first | (rw [hy120]; with_reducible exact H) | (have H2_ := (Option.bind_some _ _).symm.trans H; rw [hy120]; with_reducible exact H2_) | (have H2_ := (Option.bind_some _ _).symm.trans H; with_reducible exact H2_) | with_reducible exact H | (rw [hy120]; exact H) | exact H
                                        have Ny120 := Aside0.mk hy120
                                        clear hy120
                                        obtain ⟨ji32, hji32⟩ : ∃ j_ : Int, (wrap64 ((ji5) + 4)) = j_ := ⟨_, rfl⟩
                                        replace H : (if 0 ≤ (ji32) then (if (ji32) < (l1.length : Int) then (if 0 ≤ (wrap64 ((wrap64 ((wrap64 ((l1.length : Int) / 8)) * 4)) + x5_1)) then (if (wrap64 ((wrap64 ((wrap64 ((l1.length : Int) / 8)) * 4)) + x5_1)) < (x0_1.length : Int) then (if 0 ≤ (wrap64 ((ji5) + 5)) then (if (wrap64 ((ji5) + 5)) < (l1.length : Int) then (if 0 ≤ (wrap64 ((wrap64 ((wrap64 ((l1.length : Int) / 8)) * 5)) + x5_1)) then (if (wrap64 ((wrap64 ((wrap64 ((l1.length : Int) / 8)) * 5)) + x5_1)) < (x0_1.length : Int) then (if 0 ≤ (wrap64 ((ji5) + 6)) then (if (wrap64 ((ji5) + 6)) < (l1.length : Int) then (if 0 ≤ (wrap64 ((wrap64 ((wrap64 ((l1.length : Int) / 8)) * 6)) + x5_1)) then (if (wrap64 ((wrap64 ((wrap64 ((l1.length : Int) / 8)) * 6)) + x5_1)) < (x0_1.length : Int) then (if 0 ≤ (wrap64 ((ji5) + 7)) then (if (wrap64 ((ji5) + 7)) < (l1.length : Int) then (if 0 ≤ (wrap64 ((wrap64 ((wrap64 ((l1.length : Int) / 8)) * 7)) + x5_1)) then (if (wrap64 ((wrap64 ((wrap64 ((l1.length : Int) / 8)) * 7)) + x5_1)) < (x0_1.length : Int) then (encoding_encodeByteStreamSplitWidth8.l0 k1 ((((y120.set ((wrap64 ((wrap64 ((wrap64 ((l1.length : Int) / 8)) * 4)) + x5_1)) : Int).toNat (rd l1 (ji32))).set ((wrap64 ((wrap64 ((wrap64 ((l1.length : Int) / 8)) * 5)) + x5_1)) : Int).toNat (rd l1 (wrap64 ((ji5) + 5)))).set ((wrap64 ((wrap64 ((wrap64 ((l1.length : Int) / 8)) * 6)) + x5_1)) : Int).toNat (rd l1 (wrap64 ((ji5) + 6)))).set ((wrap64 ((wrap64 ((wrap64 ((l1.length : Int) / 8)) * 7)) + x5_1)) : Int).toNat (rd l1 (wrap64 ((ji5) + 7)))) l1 (wrap64 ((l1.length : Int) / 8)) (wrap64 (x5_1 + 1))) else (none)) else (none)) else (none)) else (none)) else (none)) else (none)) else (none)) else (none)) else (none)) else (none)) else (none)) else (none)) else (none)) else (none)) else (none)) else (none)) = some r := by first | (rw [hji32] at H; exact H) | (simp only [hji32] at H ⊢; exact H)
                                        have hji32w : (IntKind.i64.wrap ((ji5) + 4)) = ji32 := (i64_w _).trans hji32
                                        by_cases c33 : 0 ≤ (ji32)
                                        · rw [if_pos c33] at H
                                          have c33b0 : decide (0 ≤ (ji32)) = true := decide_eq_true c33
                                          clear c33
                                          by_cases c34 : (ji32) < (l1.length : Int)
                                          · rw [if_pos c34] at H
                                            have c34b0 : decide ((ji32) < (l1.length : Int)) = true := decide_eq_true c34
                                            clear c34
                                            obtain ⟨ji35, hji35⟩ : ∃ j_ : Int, (wrap64 ((wrap64 ((wrap64 ((l1.length : Int) / 8)) * 4)) + x5_1)) = j_ := ⟨_, rfl⟩
                                            replace H : (if 0 ≤ (ji35) then (if (ji35) < (x0_1.length : Int) then (if 0 ≤ (wrap64 ((ji5) + 5)) then (if (wrap64 ((ji5) + 5)) < (l1.length : Int) then (if 0 ≤ (wrap64 ((wrap64 ((wrap64 ((l1.length : Int) / 8)) * 5)) + x5_1)) then (if (wrap64 ((wrap64 ((wrap64 ((l1.length : Int) / 8)) * 5)) + x5_1)) < (x0_1.length : Int) then (if 0 ≤ (wrap64 ((ji5) + 6)) then (if (wrap64 ((ji5) + 6)) < (l1.length : Int) then (if 0 ≤ (wrap64 ((wrap64 ((wrap64 ((l1.length : Int) / 8)) * 6)) + x5_1)) then (if (wrap64 ((wrap64 ((wrap64 ((l1.length : Int) / 8)) * 6)) + x5_1)) < (x0_1.length : Int) then (if 0 ≤ (wrap64 ((ji5) + 7)) then (if (wrap64 ((ji5) + 7)) < (l1.length : Int) then (if 0 ≤ (wrap64 ((wrap64 ((wrap64 ((l1.length : Int) / 8)) * 7)) + x5_1)) then (if (wrap64 ((wrap64 ((wrap64 ((l1.length : Int) / 8)) * 7)) + x5_1)) < (x0_1.length : Int) then (encoding_encodeByteStreamSplitWidth8.l0 k1 ((((y120.set ((ji35) : Int).toNat (rd l1 (ji32))).set ((wrap64 ((wrap64 ((wrap64 ((l1.length : Int) / 8)) * 5)) + x5_1)) : Int).toNat (rd l1 (wrap64 ((ji5) + 5)))).set ((wrap64 ((wrap64 ((wrap64 ((l1.length : Int) / 8)) * 6)) + x5_1)) : Int).toNat (rd l1 (wrap64 ((ji5) + 6)))).set ((wrap64 ((wrap64 ((wrap64 ((l1.length : Int) / 8)) * 7)) + x5_1)) : Int).toNat (rd l1 (wrap64 ((ji5) + 7)))) l1 (wrap64 ((l1.length : Int) / 8)) (wrap64 (x5_1 + 1))) else (none)) else (none)) else (none)) else (none)) else (none)) else (none)) else (none)) else (none)) else (none)) else (none)) else (none)) else (none)) else (none)) else (none)) = some r := by first | (rw [hji35] at H; exact H) | (simp only [hji35] at H ⊢; exact H)
                                            have hji35w : (IntKind.i64.wrap ((wrap64 ((wrap64 ((l1.length : Int) / 8)) * 4)) + x5_1)) = ji35 := (i64_w _).trans hji35
                                            by_cases c36 : 0 ≤ (ji35)
                                            · rw [if_pos c36] at H
                                              have c36b0 : decide (0 ≤ (ji35)) = true := decide_eq_true c36
                                              clear c36
                                              by_cases c37 : (ji35) < (x0_1.length : Int)
                                              · rw [if_pos c37] at H
                                                have c37b0 : decide ((ji35) < (x0_1.length : Int)) = true := decide_eq_true c37
                                                clear c37
                                                obtain ⟨y122, hy122⟩ : ∃ y_ : List Int, y_ = (y120.set ((ji35) : Int).toNat (rd l1 (ji32))) := ⟨_, rfl⟩
                                                replace H : (if 0 ≤ (wrap64 ((ji5) + 5)) then (if (wrap64 ((ji5) + 5)) < (l1.length : Int) then (if 0 ≤ (wrap64 ((wrap64 ((wrap64 ((l1.length : Int) / 8)) * 5)) + x5_1)) then (if (wrap64 ((wrap64 ((wrap64 ((l1.length : Int) / 8)) * 5)) + x5_1)) < (x0_1.length : Int) then (if 0 ≤ (wrap64 ((ji5) + 6)) then (if (wrap64 ((ji5) + 6)) < (l1.length : Int) then (if 0 ≤ (wrap64 ((wrap64 ((wrap64 ((l1.length : Int) / 8)) * 6)) + x5_1)) then (if (wrap64 ((wrap64 ((wrap64 ((l1.length : Int) / 8)) * 6)) + x5_1)) < (x0_1.length : Int) then (if 0 ≤ (wrap64 ((ji5) + 7)) then (if (wrap64 ((ji5) + 7)) < (l1.length : Int) then (if 0 ≤ (wrap64 ((wrap64 ((wrap64 ((l1.length : Int) / 8)) * 7)) + x5_1)) then (if (wrap64 ((wrap64 ((wrap64 ((l1.length : Int) / 8)) * 7)) + x5_1)) < (x0_1.length : Int) then (encoding_encodeByteStreamSplitWidth8.l0 k1 (((y122.set ((wrap64 ((wrap64 ((wrap64 ((l1.length : Int) / 8)) * 5)) + x5_1)) : Int).toNat (rd l1 (wrap64 ((ji5) + 5)))).set ((wrap64 ((wrap64 ((wrap64 ((l1.length : Int) / 8)) * 6)) + x5_1)) : Int).toNat (rd l1 (wrap64 ((ji5) + 6)))).set ((wrap64 ((wrap64 ((wrap64 ((l1.length : Int) / 8)) * 7)) + x5_1)) : Int).toNat (rd l1 (wrap64 ((ji5) + 7)))) l1 (wrap64 ((l1.length : Int) / 8)) (wrap64 (x5_1 + 1))) else (none)) else (none)) else (none)) else (none)) else (none)) else (none)) else (none)) else (none)) else (none)) else (none)) else (none)) else (none)) = some r := by first | (rw [hy122]; with_reducible exact H) | (have H2_ := (Option.bind_some _ _).symm.trans H; rw [hy122]; with_reducible exact H2_) | (have H2_ := (Option.bind_some _ _).symm.trans H; with_reducible exact H2_) | with_reducible exact H | (rw [hy122]; exact H) | exact H
                                                have Ny122 := Aside0.mk hy122
                                                clear hy122
                                                obtain ⟨ji39, hji39⟩ : ∃ j_ : Int, (wrap64 ((ji5) + 5)) = j_ := ⟨_, rfl⟩
                                                replace H : (if 0 ≤ (ji39) then (if (ji39) < (l1.length : Int) then (if 0 ≤ (wrap64 ((wrap64 ((wrap64 ((l1.length : Int) / 8)) * 5)) + x5_1)) then (if (wrap64 ((wrap64 ((wrap64 ((l1.length : Int) / 8)) * 5)) + x5_1)) < (x0_1.length : Int) then (if 0 ≤ (wrap64 ((ji5) + 6)) then (if (wrap64 ((ji5) + 6)) < (l1.length : Int) then (if 0 ≤ (wrap64 ((wrap64 ((wrap64 ((l1.length : Int) / 8)) * 6)) + x5_1)) then (if (wrap64 ((wrap64 ((wrap64 ((l1.length : Int) / 8)) * 6)) + x5_1)) < (x0_1.length : Int) then (if 0 ≤ (wrap64 ((ji5) + 7)) then (if (wrap64 ((ji5) + 7)) < (l1.length : Int) then (if 0 ≤ (wrap64 ((wrap64 ((wrap64 ((l1.length : Int) / 8)) * 7)) + x5_1)) then (if (wrap64 ((wrap64 ((wrap64 ((l1.length : Int) / 8)) * 7)) + x5_1)) < (x0_1.length : Int) then (encoding_encodeByteStreamSplitWidth8.l0 k1 (((y122.set ((wrap64 ((wrap64 ((wrap64 ((l1.length : Int) / 8)) * 5)) + x5_1)) : Int).toNat (rd l1 (ji39))).set ((wrap64 ((wrap64 ((wrap64 ((l1.length : Int) / 8)) * 6)) + x5_1)) : Int).toNat (rd l1 (wrap64 ((ji5) + 6)))).set ((wrap64 ((wrap64 ((wrap64 ((l1.length : Int) / 8)) * 7)) + x5_1)) : Int).toNat (rd l1 (wrap64 ((ji5) + 7)))) l1 (wrap64 ((l1.length : Int) / 8)) (wrap64 (x5_1 + 1))) else (none)) else (none)) else (none)) else (none)) else (none)) else (none)) else (none)) else (none)) else (none)) else (none)) else (none)) else (none)) = some r := by first | (rw [hji39] at H; exact H) | (simp only [hji39] at H ⊢; exact H)
                                                have hji39w : (IntKind.i64.wrap ((ji5) + 5)) = ji39 := (i64_w _).trans hji39
                                                by_cases c40 : 0 ≤ (ji39)
                                                · rw [if_pos c40] at H
                                                  have c40b0 : decide (0 ≤ (ji39)) = true := decide_eq_true c40
                                                  clear c40
                                                  by_cases c41 : (ji39) < (l1.length : Int)
                                                  · rw [if_pos c41] at H
                                                    have c41b0 : decide ((ji39) < (l1.length : Int)) = true := decide_eq_true c41
                                                    clear c41
                                                    obtain ⟨ji42, hji42⟩ : ∃ j_ : Int, (wrap64 ((wrap64 ((wrap64 ((l1.length : Int) / 8)) * 5)) + x5_1)) = j_ := ⟨_, rfl⟩
                                                    replace H : (if 0 ≤ (ji42) then (if (ji42) < (x0_1.length : Int) then (if 0 ≤ (wrap64 ((ji5) + 6)) then (if (wrap64 ((ji5) + 6)) < (l1.length : Int) then (if 0 ≤ (wrap64 ((wrap64 ((wrap64 ((l1.length : Int) / 8)) * 6)) + x5_1)) then (if (wrap64 ((wrap64 ((wrap64 ((l1.length : Int) / 8)) * 6)) + x5_1)) < (x0_1.length : Int) then (if 0 ≤ (wrap64 ((ji5) + 7)) then (if (wrap64 ((ji5) + 7)) < (l1.length : Int) then (if 0 ≤ (wrap64 ((wrap64 ((wrap64 ((l1.length : Int) / 8)) * 7)) + x5_1)) then (if (wrap64 ((wrap64 ((wrap64 ((l1.length : Int) / 8)) * 7)) + x5_1)) < (x0_1.length : Int) then (encoding_encodeByteStreamSplitWidth8.l0 k1 (((y122.set ((ji42) : Int).toNat (rd l1 (ji39))).set ((wrap64 ((wrap64 ((wrap64 ((l1.length : Int) / 8)) * 6)) + x5_1)) : Int).toNat (rd l1 (wrap64 ((ji5) + 6)))).set ((wrap64 ((wrap64 ((wrap64 ((l1.length : Int) / 8)) * 7)) + x5_1)) : Int).toNat (rd l1 (wrap64 ((ji5) + 7)))) l1 (wrap64 ((l1.length : Int) / 8)) (wrap64 (x5_1 + 1))) else (none)) else (none)) else (none)) else (none)) else (none)) else (none)) else (none)) else (none)) else (none)) else (none)) = some r := by first | (rw [hji42] at H; exact H) | (simp only [hji42] at H ⊢; exact H)
                                                    have hji42w : (IntKind.i64.wrap ((wrap64 ((wrap64 ((l1.length : Int) / 8)) * 5)) + x5_1)) = ji42 := (i64_w _).trans hji42
                                                    by_cases c43 : 0 ≤ (ji42)
                                                    · rw [if_pos c43] at H
                                                      have c43b0 : decide (0 ≤ (ji42)) = true := decide_eq_true c43
                                                      clear c43
                                                      by_cases c44 : (ji42) < (x0_1.length : Int)
                                                      · rw [if_pos c44] at H
                                                        have c44b0 : decide ((ji42) < (x0_1.length : Int)) = true := decide_eq_true c44
                                                        clear c44
                                                        obtain ⟨y124, hy124⟩ : ∃ y_ : List Int, y_ = (y122.set ((ji42) : Int).toNat (rd l1 (ji39))) := ⟨_, rfl⟩
                                                        replace H : (if 0 ≤ (wrap64 ((ji5) + 6)) then (if (wrap64 ((ji5) + 6)) < (l1.length : Int) then (if 0 ≤ (wrap64 ((wrap64 ((wrap64 ((l1.length : Int) / 8)) * 6)) + x5_1)) then (if (wrap64 ((wrap64 ((wrap64 ((l1.length : Int) / 8)) * 6)) + x5_1)) < (x0_1.length : Int) then (if 0 ≤ (wrap64 ((ji5) + 7)) then (if (wrap64 ((ji5) + 7)) < (l1.length : Int) then (if 0 ≤ (wrap64 ((wrap64 ((wrap64 ((l1.length : Int) / 8)) * 7)) + x5_1)) then (if (wrap64 ((wrap64 ((wrap64 ((l1.length : Int) / 8)) * 7)) + x5_1)) < (x0_1.length : Int) then (encoding_encodeByteStreamSplitWidth8.l0 k1 ((y124.set ((wrap64 ((wrap64 ((wrap64 ((l1.length : Int) / 8)) * 6)) + x5_1)) : Int).toNat (rd l1 (wrap64 ((ji5) + 6)))).set ((wrap64 ((wrap64 ((wrap64 ((l1.length : Int) / 8)) * 7)) + x5_1)) : Int).toNat (rd l1 (wrap64 ((ji5) + 7)))) l1 (wrap64 ((l1.length : Int) / 8)) (wrap64 (x5_1 + 1))) else (none)) else (none)) else (none)) else (none)) else (none)) else (none)) else (none)) else (none)) = some r := by first | (rw [hy124]; with_reducible exact H) | (have H2_ := (Option.bind_some _ _).symm.trans H; rw [hy124]; with_reducible exact H2_) | (have H2_ := (Option.bind_some _ _).symm.trans H; with_reducible exact H2_) | with_reducible exact H | (rw [hy124]; exact H) | exact H
                                                        have Ny124 := Aside0.mk hy124
                                                        clear hy124
                                                        obtain ⟨ji46, hji46⟩ : ∃ j_ : Int, (wrap64 ((ji5) + 6)) = j_ := ⟨_, rfl⟩
                                                        replace H : (if 0 ≤ (ji46) then (if (ji46) < (l1.length : Int) then (if 0 ≤ (wrap64 ((wrap64 ((wrap64 ((l1.length : Int) / 8)) * 6)) + x5_1)) then (if (wrap64 ((wrap64 ((wrap64 ((l1.length : Int) / 8)) * 6)) + x5_1)) < (x0_1.length : Int) then (if 0 ≤ (wrap64 ((ji5) + 7)) then (if (wrap64 ((ji5) + 7)) < (l1.length : Int) then (if 0 ≤ (wrap64 ((wrap64 ((wrap64 ((l1.length : Int) / 8)) * 7)) + x5_1)) then (if (wrap64 ((wrap64 ((wrap64 ((l1.length : Int) / 8)) * 7)) + x5_1)) < (x0_1.length : Int) then (encoding_encodeByteStreamSplitWidth8.l0 k1 ((y124.set ((wrap64 ((wrap64 ((wrap64 ((l1.length : Int) / 8)) * 6)) + x5_1)) : Int).toNat (rd l1 (ji46))).set ((wrap64 ((wrap64 ((wrap64 ((l1.length : Int) / 8)) * 7)) + x5_1)) : Int).toNat (rd l1 (wrap64 ((ji5) + 7)))) l1 (wrap64 ((l1.length : Int) / 8)) (wrap64 (x5_1 + 1))) else (none)) else (none)) else (none)) else (none)) else (none)) else (none)) else (none)) else (none)) = some r := by first | (rw [hji46] at H; exact H) | (simp only [hji46] at H ⊢; exact H)
                                                        have hji46w : (IntKind.i64.wrap ((ji5) + 6)) = ji46 := (i64_w _).trans hji46
                                                        by_cases c47 : 0 ≤ (ji46)
                                                        · rw [if_pos c47] at H
                                                          have c47b0 : decide (0 ≤ (ji46)) = true := decide_eq_true c47
                                                          clear c47
                                                          by_cases c48 : (ji46) < (l1.length : Int)
                                                          · rw [if_pos c48] at H
                                                            have c48b0 : decide ((ji46) < (l1.length : Int)) = true := decide_eq_true c48
                                                            clear c48
                                                            obtain ⟨ji49, hji49⟩ : ∃ j_ : Int, (wrap64 ((wrap64 ((wrap64 ((l1.length : Int) / 8)) * 6)) + x5_1)) = j_ := ⟨_, rfl⟩
                                                            replace H : (if 0 ≤ (ji49) then (if (ji49) < (x0_1.length : Int) then (if 0 ≤ (wrap64 ((ji5) + 7)) then (if (wrap64 ((ji5) + 7)) < (l1.length : Int) then (if 0 ≤ (wrap64 ((wrap64 ((wrap64 ((l1.length : Int) / 8)) * 7)) + x5_1)) then (if (wrap64 ((wrap64 ((wrap64 ((l1.length : Int) / 8)) * 7)) + x5_1)) < (x0_1.length : Int) then (encoding_encodeByteStreamSplitWidth8.l0 k1 ((y124.set ((ji49) : Int).toNat (rd l1 (ji46))).set ((wrap64 ((wrap64 ((wrap64 ((l1.length : Int) / 8)) * 7)) + x5_1)) : Int).toNat (rd l1 (wrap64 ((ji5) + 7)))) l1 (wrap64 ((l1.length : Int) / 8)) (wrap64 (x5_1 + 1))) else (none)) else (none)) else (none)) else (none)) else (none)) else (none)) = some r := by first | (rw [hji49] at H; exact H) | (simp only [hji49] at H ⊢; exact H)
                                                            have hji49w : (IntKind.i64.wrap ((wrap64 ((wrap64 ((l1.length : Int) / 8)) * 6)) + x5_1)) = ji49 := (i64_w _).trans hji49
                                                            by_cases c50 : 0 ≤ (ji49)
                                                            · rw [if_pos c50] at H
                                                              have c50b0 : decide (0 ≤ (ji49)) = true := decide_eq_true c50
                                                              clear c50
                                                              by_cases c51 : (ji49) < (x0_1.length : Int)
                                                              · rw [if_pos c51] at H
                                                                have c51b0 : decide ((ji49) < (x0_1.length : Int)) = true := decide_eq_true c51
                                                                clear c51
                                                                obtain ⟨y126, hy126⟩ : ∃ y_ : List Int, y_ = (y124.set ((ji49) : Int).toNat (rd l1 (ji46))) := ⟨_, rfl⟩
                                                                replace H : (if 0 ≤ (wrap64 ((ji5) + 7)) then (if (wrap64 ((ji5) + 7)) < (l1.length : Int) then (if 0 ≤ (wrap64 ((wrap64 ((wrap64 ((l1.length : Int) / 8)) * 7)) + x5_1)) then (if (wrap64 ((wrap64 ((wrap64 ((l1.length : Int) / 8)) * 7)) + x5_1)) < (x0_1.length : Int) then (encoding_encodeByteStreamSplitWidth8.l0 k1 (y126.set ((wrap64 ((wrap64 ((wrap64 ((l1.length : Int) / 8)) * 7)) + x5_1)) : Int).toNat (rd l1 (wrap64 ((ji5) + 7)))) l1 (wrap64 ((l1.length : Int) / 8)) (wrap64 (x5_1 + 1))) else (none)) else (none)) else (none)) else (none)) = some r := by first | (rw [hy126]; with_reducible exact H) | (have H2_ := (Option.bind_some _ _).symm.trans H; rw [hy126]; with_reducible exact H2_) | (have H2_ := (Option.bind_some _ _).symm.trans H; with_reducible exact H2_) | with_reducible exact H | (rw [hy126]; exact H) | exact H
                                                                have Ny126 := Aside0.mk hy126
                                                                clear hy126
                                                                obtain ⟨ji53, hji53⟩ : ∃ j_ : Int, (wrap64 ((ji5) + 7)) = j_ := ⟨_, rfl⟩
                                                                replace H : (if 0 ≤ (ji53) then (if (ji53) < (l1.length : Int) then (if 0 ≤ (wrap64 ((wrap64 ((wrap64 ((l1.length : Int) / 8)) * 7)) + x5_1)) then (if (wrap64 ((wrap64 ((wrap64 ((l1.length : Int) / 8)) * 7)) + x5_1)) < (x0_1.length : Int) then (encoding_encodeByteStreamSplitWidth8.l0 k1 (y126.set ((wrap64 ((wrap64 ((wrap64 ((l1.length : Int) / 8)) * 7)) + x5_1)) : Int).toNat (rd l1 (ji53))) l1 (wrap64 ((l1.length : Int) / 8)) (wrap64 (x5_1 + 1))) else (none)) else (none)) else (none)) else (none)) = some r := by first | (rw [hji53] at H; exact H) | (simp only [hji53] at H ⊢; exact H)
                                                                have hji53w : (IntKind.i64.wrap ((ji5) + 7)) = ji53 := (i64_w _).trans hji53
                                                                by_cases c54 : 0 ≤ (ji53)
                                                                · rw [if_pos c54] at H
                                                                  have c54b0 : decide (0 ≤ (ji53)) = true := decide_eq_true c54
                                                                  clear c54
                                                                  by_cases c55 : (ji53) < (l1.length : Int)
                                                                  · rw [if_pos c55] at H
                                                                    have c55b0 : decide ((ji53) < (l1.length : Int)) = true := decide_eq_true c55
                                                                    clear c55
                                                                    obtain ⟨ji56, hji56⟩ : ∃ j_ : Int, (wrap64 ((wrap64 ((wrap64 ((l1.length : Int) / 8)) * 7)) + x5_1)) = j_ := ⟨_, rfl⟩
                                                                    replace H : (if 0 ≤ (ji56) then (if (ji56) < (x0_1.length : Int) then (encoding_encodeByteStreamSplitWidth8.l0 k1 (y126.set ((ji56) : Int).toNat (rd l1 (ji53))) l1 (wrap64 ((l1.length : Int) / 8)) (wrap64 (x5_1 + 1))) else (none)) else (none)) = some r := by first | (rw [hji56] at H; exact H) | (simp only [hji56] at H ⊢; exact H)
                                                                    have hji56w : (IntKind.i64.wrap ((wrap64 ((wrap64 ((l1.length : Int) / 8)) * 7)) + x5_1)) = ji56 := (i64_w _).trans hji56
                                                                    by_cases c57 : 0 ≤ (ji56)
                                                                    · rw [if_pos c57] at H
                                                                      have c57b0 : decide (0 ≤ (ji56)) = true := decide_eq_true c57
                                                                      clear c57
                                                                      by_cases c58 : (ji56) < (x0_1.length : Int)
                                                                      · rw [if_pos c58] at H
                                                                        have c58b0 : decide ((ji56) < (x0_1.length : Int)) = true := decide_eq_true c58
                                                                        clear c58
                                                                        obtain ⟨y128, hy128⟩ : ∃ y_ : List Int, y_ = (y126.set ((ji56) : Int).toNat (rd l1 (ji53))) := ⟨_, rfl⟩
                                                                        replace H : (encoding_encodeByteStreamSplitWidth8.l0 k1 y128 l1 (wrap64 ((l1.length : Int) / 8)) (wrap64 (x5_1 + 1))) = some r := by first | (rw [hy128]; with_reducible exact H) | (have H2_ := (Option.bind_some _ _).symm.trans H; rw [hy128]; with_reducible exact H2_) | (have H2_ := (Option.bind_some _ _).symm.trans H; with_reducible exact H2_) | with_reducible exact H | (rw [hy128]; exact H) | exact H
                                                                        have Ny128 := Aside0.mk hy128
                                                                        clear hy128
                                                                        have H' := Aside0.mk H
                                                                        clear H
                                                                        have p113 : 0 ≤ ((ji5) : Int) := of_decide_eq_true (by first | (with_reducible assumption) | assumption)
                                                                        have q113 : (ji5) < (l1.length : Int) := of_decide_eq_true (by first | (with_reducible assumption) | assumption)
                                                                        obtain ⟨ad113, e113, hx113_0⟩ := Kd.at_int (Kd.C_kept_now HR1.out HK.out) (ji5) p113 q113
                                                                        cases e113
                                                                        replace p113 := eq_true p113
                                                                        replace q113 := eq_true q113
                                                                        have p10 : 0 ≤ (x5_1 : Int) := of_decide_eq_true (by first | (with_reducible assumption) | assumption)
                                                                        have q10 : (x5_1 : Int) < ((x0_1.length : Int) : Int) := of_decide_eq_true (by first | (with_reducible assumption) | assumption)
                                                                        obtain ⟨go10, co10, eo10, gb10, gl10, cl10, HG10⟩ := Kd.R_form HO_0.out (by omega)
                                                                        (first | cases eo10 | (injection eo10 with ea_ en_ ec_; (first | subst ea_ | (injection ea_ with ea_; subst ea_)); subst ec_; clear en_))
                                                                        have GB10 := Aside0.mk gb10
                                                                        have GG10 := Aside0.mk HG10
                                                                        clear gb10 gl10 HG10
                                                                        have HMgo10 := Aside0.mk (show (P0_ go10 ∨ w.heap.size ≤ go10) from (HO_0.out.1 _ rfl))
                                                                        obtain ⟨hx10_0, hf10_0⟩ := Kd.R_celln 0 HO_0.out (x5_1 : Int) p10 q10
                                                                        replace p10 := eq_true p10
                                                                        replace q10 := eq_true q10
                                                                        have HP60 := Kd.R_putg HO_0.out (x5_1 : Int) (rd l1 (ji5))
                                                                        go_wp2_with (first | ((with_reducible refine gate_store (t := 5) (p := 30) rfl ?_); refine store_event (t := 5) (p := 30) (v := ?vo_w61) (w1 := (wr.setCell ⟨go10, (x5_1 : Int).toNat, none⟩ (.int .u8 (rd l1 (ji5))))) ?hg ?ho ?hn ?hr ?_; (case ho => rfl); (case hg => rfl); (case hn => rfl); (case hr => first | (go_simp; done) | (go_simp; rfl)); intro w61 hw; have hg : wr.grownBy w61 (some go10) := (by rw [hw]; exact HP60.2); have hp_ : Kd.R (Kd.int .u8) 5 w61 w0.heap.size (fun k_ => (P0_ k_ ∨ w.heap.size ≤ k_)) (.slice (some ⟨go10, 0, none⟩) x0_1.length co3) y114 := (by rw [hw, Ny114.out]; exact HP60.1); clear HP60; have n0_ := Aside0.mk (hp_); have n1_ := Aside0.mk ((by rw [hw]; exact below_set (HB.out) GB10.out : Below w0.heap.size w0 w61)); have n2_ := Aside0.mk (Kept.of_grown (S := (fun k_ => P0_ k_)) hg (by repeat (first | (with_reducible first | exact HK.out | apply Kept.alloc | apply Kept.drewN | apply Kept.drew) | exact HK.out)) (fun k_ e_ => (HO_0.out.1 k_ e_))); clear HO_0; clear HB; clear HK; have HO_0 := n0_; have HB := n1_; have HK := n2_; clear n0_ n1_ n2_; clear hg hw hp_; have p115 : 0 ≤ ((ji11) : Int) := of_decide_eq_true (by first | (with_reducible assumption) | assumption); have q115 : (ji11) < (l1.length : Int) := of_decide_eq_true (by first | (with_reducible assumption) | assumption); obtain ⟨ad115, e115, hx115_0⟩ := Kd.at_int (Kd.C_kept_now HR1.out HK.out) (ji11) p115 q115; obtain rfl : ad113 = ad115 := (by injection e115); replace p115 := eq_true p115; replace q115 := eq_true q115; have p17 : 0 ≤ ((ji14) : Int) := of_decide_eq_true (by first | (with_reducible assumption) | assumption); have q17 : ((ji14) : Int) < ((x0_1.length : Int) : Int) := of_decide_eq_true (by first | (with_reducible assumption) | assumption); obtain ⟨hx17_0, hf17_0⟩ := Kd.R_celln 0 HO_0.out ((ji14) : Int) p17 q17; replace p17 := eq_true p17; replace q17 := eq_true q17; obtain ⟨hy62_, hz62_⟩ := Kd.R_celln 0 HO_0.out ((ji14) : Int) (of_decide_eq_true (by first | (with_reducible assumption) | assumption)) (of_decide_eq_true (by first | (with_reducible assumption) | assumption)); have HP62 := Kd.R_putg HO_0.out ((ji14) : Int) (rd l1 (ji11))) | ((with_reducible refine gate_store (t := 5) (p := 40) rfl ?_); refine store_event (t := 5) (p := 40) (v := ?vo_w63) (w1 := (w61.setCell ⟨go10, ((ji14) : Int).toNat, none⟩ (.int .u8 (rd l1 (ji11))))) ?hg ?ho ?hn ?hr ?_; (case ho => rfl); (case hg => rfl); (case hn => rfl); (case hr => first | (go_simp; done) | (go_simp; rfl)); intro w63 hw; have hg : w61.grownBy w63 (some go10) := (by rw [hw]; exact HP62.2); have hp_ : Kd.R (Kd.int .u8) 5 w63 w0.heap.size (fun k_ => (P0_ k_ ∨ w.heap.size ≤ k_)) (.slice (some ⟨go10, 0, none⟩) x0_1.length co3) y116 := (by rw [hw, Ny116.out]; exact HP62.1); clear HP62; have n0_ := Aside0.mk (hp_); have n1_ := Aside0.mk ((by rw [hw]; exact below_set (HB.out) GB10.out : Below w0.heap.size w0 w63)); have n2_ := Aside0.mk (Kept.of_grown (S := (fun k_ => P0_ k_)) hg (by repeat (first | (with_reducible first | exact HK.out | apply Kept.alloc | apply Kept.drewN | apply Kept.drew) | exact HK.out)) (fun k_ e_ => (HO_0.out.1 k_ e_))); clear HO_0; clear HB; clear HK; have HO_0 := n0_; have HB := n1_; have HK := n2_; clear n0_ n1_ n2_; clear hg hw hp_; have p117 : 0 ≤ ((ji18) : Int) := of_decide_eq_true (by first | (with_reducible assumption) | assumption); have q117 : (ji18) < (l1.length : Int) := of_decide_eq_true (by first | (with_reducible assumption) | assumption); obtain ⟨ad117, e117, hx117_0⟩ := Kd.at_int (Kd.C_kept_now HR1.out HK.out) (ji18) p117 q117; obtain rfl : ad113 = ad117 := (by injection e117); replace p117 := eq_true p117; replace q117 := eq_true q117; have p24 : 0 ≤ ((ji21) : Int) := of_decide_eq_true (by first | (with_reducible assumption) | assumption); have q24 : ((ji21) : Int) < ((x0_1.length : Int) : Int) := of_decide_eq_true (by first | (with_reducible assumption) | assumption); obtain ⟨hx24_0, hf24_0⟩ := Kd.R_celln 0 HO_0.out ((ji21) : Int) p24 q24; replace p24 := eq_true p24; replace q24 := eq_true q24; obtain ⟨hy64_, hz64_⟩ := Kd.R_celln 0 HO_0.out ((ji21) : Int) (of_decide_eq_true (by first | (with_reducible assumption) | assumption)) (of_decide_eq_true (by first | (with_reducible assumption) | assumption)); have HP64 := Kd.R_putg HO_0.out ((ji21) : Int) (rd l1 (ji18))) | ((with_reducible refine gate_store (t := 5) (p := 51) rfl ?_); refine store_event (t := 5) (p := 51) (v := ?vo_w65) (w1 := (w63.setCell ⟨go10, ((ji21) : Int).toNat, none⟩ (.int .u8 (rd l1 (ji18))))) ?hg ?ho ?hn ?hr ?_; (case ho => rfl); (case hg => rfl); (case hn => rfl); (case hr => first | (go_simp; done) | (go_simp; rfl)); intro w65 hw; have hg : w63.grownBy w65 (some go10) := (by rw [hw]; exact HP64.2); have hp_ : Kd.R (Kd.int .u8) 5 w65 w0.heap.size (fun k_ => (P0_ k_ ∨ w.heap.size ≤ k_)) (.slice (some ⟨go10, 0, none⟩) x0_1.length co3) y118 := (by rw [hw, Ny118.out]; exact HP64.1); clear HP64; have n0_ := Aside0.mk (hp_); have n1_ := Aside0.mk ((by rw [hw]; exact below_set (HB.out) GB10.out : Below w0.heap.size w0 w65)); have n2_ := Aside0.mk (Kept.of_grown (S := (fun k_ => P0_ k_)) hg (by repeat (first | (with_reducible first | exact HK.out | apply Kept.alloc | apply Kept.drewN | apply Kept.drew) | exact HK.out)) (fun k_ e_ => (HO_0.out.1 k_ e_))); clear HO_0; clear HB; clear HK; have HO_0 := n0_; have HB := n1_; have HK := n2_; clear n0_ n1_ n2_; clear hg hw hp_; have p119 : 0 ≤ ((ji25) : Int) := of_decide_eq_true (by first | (with_reducible assumption) | assumption); have q119 : (ji25) < (l1.length : Int) := of_decide_eq_true (by first | (with_reducible assumption) | assumption); obtain ⟨ad119, e119, hx119_0⟩ := Kd.at_int (Kd.C_kept_now HR1.out HK.out) (ji25) p119 q119; obtain rfl : ad113 = ad119 := (by injection e119); replace p119 := eq_true p119; replace q119 := eq_true q119; have p31 : 0 ≤ ((ji28) : Int) := of_decide_eq_true (by first | (with_reducible assumption) | assumption); have q31 : ((ji28) : Int) < ((x0_1.length : Int) : Int) := of_decide_eq_true (by first | (with_reducible assumption) | assumption); obtain ⟨hx31_0, hf31_0⟩ := Kd.R_celln 0 HO_0.out ((ji28) : Int) p31 q31; replace p31 := eq_true p31; replace q31 := eq_true q31; obtain ⟨hy66_, hz66_⟩ := Kd.R_celln 0 HO_0.out ((ji28) : Int) (of_decide_eq_true (by first | (with_reducible assumption) | assumption)) (of_decide_eq_true (by first | (with_reducible assumption) | assumption)); have HP66 := Kd.R_putg HO_0.out ((ji28) : Int) (rd l1 (ji25))) | ((with_reducible refine gate_store (t := 5) (p := 62) rfl ?_); refine store_event (t := 5) (p := 62) (v := ?vo_w67) (w1 := (w65.setCell ⟨go10, ((ji28) : Int).toNat, none⟩ (.int .u8 (rd l1 (ji25))))) ?hg ?ho ?hn ?hr ?_; (case ho => rfl); (case hg => rfl); (case hn => rfl); (case hr => first | (go_simp; done) | (go_simp; rfl)); intro w67 hw; have hg : w65.grownBy w67 (some go10) := (by rw [hw]; exact HP66.2); have hp_ : Kd.R (Kd.int .u8) 5 w67 w0.heap.size (fun k_ => (P0_ k_ ∨ w.heap.size ≤ k_)) (.slice (some ⟨go10, 0, none⟩) x0_1.length co3) y120 := (by rw [hw, Ny120.out]; exact HP66.1); clear HP66; have n0_ := Aside0.mk (hp_); have n1_ := Aside0.mk ((by rw [hw]; exact below_set (HB.out) GB10.out : Below w0.heap.size w0 w67)); have n2_ := Aside0.mk (Kept.of_grown (S := (fun k_ => P0_ k_)) hg (by repeat (first | (with_reducible first | exact HK.out | apply Kept.alloc | apply Kept.drewN | apply Kept.drew) | exact HK.out)) (fun k_ e_ => (HO_0.out.1 k_ e_))); clear HO_0; clear HB; clear HK; have HO_0 := n0_; have HB := n1_; have HK := n2_; clear n0_ n1_ n2_; clear hg hw hp_; have p121 : 0 ≤ ((ji32) : Int) := of_decide_eq_true (by first | (with_reducible assumption) | assumption); have q121 : (ji32) < (l1.length : Int) := of_decide_eq_true (by first | (with_reducible assumption) | assumption); obtain ⟨ad121, e121, hx121_0⟩ := Kd.at_int (Kd.C_kept_now HR1.out HK.out) (ji32) p121 q121; obtain rfl : ad113 = ad121 := (by injection e121); replace p121 := eq_true p121; replace q121 := eq_true q121; have p38 : 0 ≤ ((ji35) : Int) := of_decide_eq_true (by first | (with_reducible assumption) | assumption); have q38 : ((ji35) : Int) < ((x0_1.length : Int) : Int) := of_decide_eq_true (by first | (with_reducible assumption) | assumption); obtain ⟨hx38_0, hf38_0⟩ := Kd.R_celln 0 HO_0.out ((ji35) : Int) p38 q38; replace p38 := eq_true p38; replace q38 := eq_true q38; obtain ⟨hy68_, hz68_⟩ := Kd.R_celln 0 HO_0.out ((ji35) : Int) (of_decide_eq_true (by first | (with_reducible assumption) | assumption)) (of_decide_eq_true (by first | (with_reducible assumption) | assumption)); have HP68 := Kd.R_putg HO_0.out ((ji35) : Int) (rd l1 (ji32))) | ((with_reducible refine gate_store (t := 5) (p := 73) rfl ?_); refine store_event (t := 5) (p := 73) (v := ?vo_w69) (w1 := (w67.setCell ⟨go10, ((ji35) : Int).toNat, none⟩ (.int .u8 (rd l1 (ji32))))) ?hg ?ho ?hn ?hr ?_; (case ho => rfl); (case hg => rfl); (case hn => rfl); (case hr => first | (go_simp; done) | (go_simp; rfl)); intro w69 hw; have hg : w67.grownBy w69 (some go10) := (by rw [hw]; exact HP68.2); have hp_ : Kd.R (Kd.int .u8) 5 w69 w0.heap.size (fun k_ => (P0_ k_ ∨ w.heap.size ≤ k_)) (.slice (some ⟨go10, 0, none⟩) x0_1.length co3) y122 := (by rw [hw, Ny122.out]; exact HP68.1); clear HP68; have n0_ := Aside0.mk (hp_); have n1_ := Aside0.mk ((by rw [hw]; exact below_set (HB.out) GB10.out : Below w0.heap.size w0 w69)); have n2_ := Aside0.mk (Kept.of_grown (S := (fun k_ => P0_ k_)) hg (by repeat (first | (with_reducible first | exact HK.out | apply Kept.alloc | apply Kept.drewN | apply Kept.drew) | exact HK.out)) (fun k_ e_ => (HO_0.out.1 k_ e_))); clear HO_0; clear HB; clear HK; have HO_0 := n0_; have HB := n1_; have HK := n2_; clear n0_ n1_ n2_; clear hg hw hp_; have p123 : 0 ≤ ((ji39) : Int) := of_decide_eq_true (by first | (with_reducible assumption) | assumption); have q123 : (ji39) < (l1.length : Int) := of_decide_eq_true (by first | (with_reducible assumption) | assumption); obtain ⟨ad123, e123, hx123_0⟩ := Kd.at_int (Kd.C_kept_now HR1.out HK.out) (ji39) p123 q123; obtain rfl : ad113 = ad123 := (by injection e123); replace p123 := eq_true p123; replace q123 := eq_true q123; have p45 : 0 ≤ ((ji42) : Int) := of_decide_eq_true (by first | (with_reducible assumption) | assumption); have q45 : ((ji42) : Int) < ((x0_1.length : Int) : Int) := of_decide_eq_true (by first | (with_reducible assumption) | assumption); obtain ⟨hx45_0, hf45_0⟩ := Kd.R_celln 0 HO_0.out ((ji42) : Int) p45 q45; replace p45 := eq_true p45; replace q45 := eq_true q45; obtain ⟨hy70_, hz70_⟩ := Kd.R_celln 0 HO_0.out ((ji42) : Int) (of_decide_eq_true (by first | (with_reducible assumption) | assumption)) (of_decide_eq_true (by first | (with_reducible assumption) | assumption)); have HP70 := Kd.R_putg HO_0.out ((ji42) : Int) (rd l1 (ji39))) | ((with_reducible refine gate_store (t := 5) (p := 84) rfl ?_); refine store_event (t := 5) (p := 84) (v := ?vo_w71) (w1 := (w69.setCell ⟨go10, ((ji42) : Int).toNat, none⟩ (.int .u8 (rd l1 (ji39))))) ?hg ?ho ?hn ?hr ?_; (case ho => rfl); (case hg => rfl); (case hn => rfl); (case hr => first | (go_simp; done) | (go_simp; rfl)); intro w71 hw; have hg : w69.grownBy w71 (some go10) := (by rw [hw]; exact HP70.2); have hp_ : Kd.R (Kd.int .u8) 5 w71 w0.heap.size (fun k_ => (P0_ k_ ∨ w.heap.size ≤ k_)) (.slice (some ⟨go10, 0, none⟩) x0_1.length co3) y124 := (by rw [hw, Ny124.out]; exact HP70.1); clear HP70; have n0_ := Aside0.mk (hp_); have n1_ := Aside0.mk ((by rw [hw]; exact below_set (HB.out) GB10.out : Below w0.heap.size w0 w71)); have n2_ := Aside0.mk (Kept.of_grown (S := (fun k_ => P0_ k_)) hg (by repeat (first | (with_reducible first | exact HK.out | apply Kept.alloc | apply Kept.drewN | apply Kept.drew) | exact HK.out)) (fun k_ e_ => (HO_0.out.1 k_ e_))); clear HO_0; clear HB; clear HK; have HO_0 := n0_; have HB := n1_; have HK := n2_; clear n0_ n1_ n2_; clear hg hw hp_; have p125 : 0 ≤ ((ji46) : Int) := of_decide_eq_true (by first | (with_reducible assumption) | assumption); have q125 : (ji46) < (l1.length : Int) := of_decide_eq_true (by first | (with_reducible assumption) | assumption); obtain ⟨ad125, e125, hx125_0⟩ := Kd.at_int (Kd.C_kept_now HR1.out HK.out) (ji46) p125 q125; obtain rfl : ad113 = ad125 := (by injection e125); replace p125 := eq_true p125; replace q125 := eq_true q125; have p52 : 0 ≤ ((ji49) : Int) := of_decide_eq_true (by first | (with_reducible assumption) | assumption); have q52 : ((ji49) : Int) < ((x0_1.length : Int) : Int) := of_decide_eq_true (by first | (with_reducible assumption) | assumption); obtain ⟨hx52_0, hf52_0⟩ := Kd.R_celln 0 HO_0.out ((ji49) : Int) p52 q52; replace p52 := eq_true p52; replace q52 := eq_true q52; obtain ⟨hy72_, hz72_⟩ := Kd.R_celln 0 HO_0.out ((ji49) : Int) (of_decide_eq_true (by first | (with_reducible assumption) | assumption)) (of_decide_eq_true (by first | (with_reducible assumption) | assumption)); have HP72 := Kd.R_putg HO_0.out ((ji49) : Int) (rd l1 (ji46))) | ((with_reducible refine gate_store (t := 5) (p := 95) rfl ?_); refine store_event (t := 5) (p := 95) (v := ?vo_w73) (w1 := (w71.setCell ⟨go10, ((ji49) : Int).toNat, none⟩ (.int .u8 (rd l1 (ji46))))) ?hg ?ho ?hn ?hr ?_; (case ho => rfl); (case hg => rfl); (case hn => rfl); (case hr => first | (go_simp; done) | (go_simp; rfl)); intro w73 hw; have hg : w71.grownBy w73 (some go10) := (by rw [hw]; exact HP72.2); have hp_ : Kd.R (Kd.int .u8) 5 w73 w0.heap.size (fun k_ => (P0_ k_ ∨ w.heap.size ≤ k_)) (.slice (some ⟨go10, 0, none⟩) x0_1.length co3) y126 := (by rw [hw, Ny126.out]; exact HP72.1); clear HP72; have n0_ := Aside0.mk (hp_); have n1_ := Aside0.mk ((by rw [hw]; exact below_set (HB.out) GB10.out : Below w0.heap.size w0 w73)); have n2_ := Aside0.mk (Kept.of_grown (S := (fun k_ => P0_ k_)) hg (by repeat (first | (with_reducible first | exact HK.out | apply Kept.alloc | apply Kept.drewN | apply Kept.drew) | exact HK.out)) (fun k_ e_ => (HO_0.out.1 k_ e_))); clear HO_0; clear HB; clear HK; have HO_0 := n0_; have HB := n1_; have HK := n2_; clear n0_ n1_ n2_; clear hg hw hp_; have p127 : 0 ≤ ((ji53) : Int) := of_decide_eq_true (by first | (with_reducible assumption) | assumption); have q127 : (ji53) < (l1.length : Int) := of_decide_eq_true (by first | (with_reducible assumption) | assumption); obtain ⟨ad127, e127, hx127_0⟩ := Kd.at_int (Kd.C_kept_now HR1.out HK.out) (ji53) p127 q127; obtain rfl : ad113 = ad127 := (by injection e127); replace p127 := eq_true p127; replace q127 := eq_true q127; have p59 : 0 ≤ ((ji56) : Int) := of_decide_eq_true (by first | (with_reducible assumption) | assumption); have q59 : ((ji56) : Int) < ((x0_1.length : Int) : Int) := of_decide_eq_true (by first | (with_reducible assumption) | assumption); obtain ⟨hx59_0, hf59_0⟩ := Kd.R_celln 0 HO_0.out ((ji56) : Int) p59 q59; replace p59 := eq_true p59; replace q59 := eq_true q59; obtain ⟨hy74_, hz74_⟩ := Kd.R_celln 0 HO_0.out ((ji56) : Int) (of_decide_eq_true (by first | (with_reducible assumption) | assumption)) (of_decide_eq_true (by first | (with_reducible assumption) | assumption)); have HP74 := Kd.R_putg HO_0.out ((ji56) : Int) (rd l1 (ji53))) | ((with_reducible refine gate_store (t := 5) (p := 106) rfl ?_); refine store_event (t := 5) (p := 106) (v := ?vo_w75) (w1 := (w73.setCell ⟨go10, ((ji56) : Int).toNat, none⟩ (.int .u8 (rd l1 (ji53))))) ?hg ?ho ?hn ?hr ?_; (case ho => rfl); (case hg => rfl); (case hn => rfl); (case hr => first | (go_simp; done) | (go_simp; rfl)); intro w75 hw; have hg : w73.grownBy w75 (some go10) := (by rw [hw]; exact HP74.2); have hp_ : Kd.R (Kd.int .u8) 5 w75 w0.heap.size (fun k_ => (P0_ k_ ∨ w.heap.size ≤ k_)) (.slice (some ⟨go10, 0, none⟩) x0_1.length co3) y128 := (by rw [hw, Ny128.out]; exact HP74.1); clear HP74; have n0_ := Aside0.mk (hp_); have n1_ := Aside0.mk ((by rw [hw]; exact below_set (HB.out) GB10.out : Below w0.heap.size w0 w75)); have n2_ := Aside0.mk (Kept.of_grown (S := (fun k_ => P0_ k_)) hg (by repeat (first | (with_reducible first | exact HK.out | apply Kept.alloc | apply Kept.drewN | apply Kept.drew) | exact HK.out)) (fun k_ e_ => (HO_0.out.1 k_ e_))); clear HO_0; clear HB; clear HK; have HO_0 := n0_; have HB := n1_; have HK := n2_; clear n0_ n1_ n2_; clear hg hw hp_))
                                                                        (try simp only [← hl0_1])
                                                                        go_roundg k1
                                                                        case measure => have := HK1.out; omega
                                                                        case rel => exact ⟨(y128), (wrap64 (x5_1 + 1)), (by first | rfl | (simp; done) | (simp [*]; done)), H', ⟨by have := HK1.out; omega⟩, ⟨by (try simp only [hl0_1]); (with_reducible repeat (first | apply Kd.R_alloc | apply Kd.R_drewN | apply Kd.R_drew)); exact HO_0.out⟩, ⟨by repeat (first | (with_reducible first | exact HK.out | apply Kept.alloc | apply Kept.drewN | apply Kept.drew) | exact HK.out)⟩, ⟨by repeat (first | (with_reducible first | exact HB.out | apply below_alloc | apply pw_below_drewN | apply below_drew1) | exact HB.out)⟩⟩
                                                                      · rw [if_neg c58] at H
                                                                        exact absurd H (by simp)
                                                                    · rw [if_neg c57] at H
                                                                      exact absurd H (by simp)
                                                                  · rw [if_neg c55] at H
                                                                    exact absurd H (by simp)
                                                                · rw [if_neg c54] at H
                                                                  exact absurd H (by simp)
                                                              · rw [if_neg c51] at H
                                                                exact absurd H (by simp)
                                                            · rw [if_neg c50] at H
                                                              exact absurd H (by simp)
                                                          · rw [if_neg c48] at H
                                                            exact absurd H (by simp)
                                                        · rw [if_neg c47] at H
                                                          exact absurd H (by simp)
                                                      · rw [if_neg c44] at H
                                                        exact absurd H (by simp)
                                                    · rw [if_neg c43] at H
                                                      exact absurd H (by simp)
                                                  · rw [if_neg c41] at H
                                                    exact absurd H (by simp)
                                                · rw [if_neg c40] at H
                                                  exact absurd H (by simp)
                                              · rw [if_neg c37] at H
                                                exact absurd H (by simp)
                                            · rw [if_neg c36] at H
                                              exact absurd H (by simp)
                                          · rw [if_neg c34] at H
                                            exact absurd H (by simp)
                                        · rw [if_neg c33] at H
                                          exact absurd H (by simp)
                                      · rw [if_neg c30] at H
                                        exact absurd H (by simp)
                                    · rw [if_neg c29] at H
                                      exact absurd H (by simp)
                                  · rw [if_neg c27] at H
                                    exact absurd H (by simp)
                                · rw [if_neg c26] at H
                                  exact absurd H (by simp)
                              · rw [if_neg c23] at H
                                exact absurd H (by simp)
                            · rw [if_neg c22] at H
                              exact absurd H (by simp)
                          · rw [if_neg c20] at H
                            exact absurd H (by simp)
                        · rw [if_neg c19] at H
                          exact absurd H (by simp)
                      · rw [if_neg c16] at H
                        exact absurd H (by simp)
                    · rw [if_neg c15] at H
                      exact absurd H (by simp)
                  · rw [if_neg c13] at H
                    exact absurd H (by simp)
                · rw [if_neg c12] at H
                  exact absurd H (by simp)
              · rw [if_neg c9] at H
                exact absurd H (by simp)
            · rw [if_neg c8] at H
              exact absurd H (by simp)
          · rw [if_neg c7] at H
            exact absurd H (by simp)
        · rw [if_neg c6] at H
          exact absurd H (by simp)
      · rw [if_neg c4] at H
        have c4b0 : decide (x5_1 < (wrap64 ((l1.length : Int) / 8))) = false := decide_eq_false c4
        clear c4
        obtain rfl := Option.some.inj H
        go_wp2
        first | go_end0 | ((try simp only [Exit.inBlock, Exit.then]); refine bodyPost_ret (results_none rfl _ _ _) rfl ?_)
        exact ⟨by first | rfl | (simp [errW_none, errW_some] <;> rfl) | (simp [*, errW_none, errW_some] <;> rfl), (by first | exact (by (with_reducible repeat (first | apply Kd.R_alloc | apply Kd.R_drewN | apply Kd.R_drew)); exact HO_0.out) | (simp only [hl0_1]; exact (by (with_reducible repeat (first | apply Kd.R_alloc | apply Kd.R_drewN | apply Kd.R_drew)); exact HO_0.out))), by repeat (first | (with_reducible first | exact HB.out | apply below_alloc | apply pw_below_drewN | apply below_drew1) | exact HB.out), by repeat (first | (with_reducible first | exact HK.out | apply Kept.alloc | apply Kept.drewN | apply Kept.drew) | exact HK.out)⟩

/-! ### encoding_encodeByteStreamSplit: function 77 -/
mutual
def encoding_encodeByteStreamSplit.l0 : Nat → List Int → List Int → Int → Int → Int → Option (List Int)
  | 0, _, _, _, _, _ => none
  | k + 1, x0, x1, x2, x6, x7 => if x7 < x2 then (encoding_encodeByteStreamSplit.l1 k x0 x1 x2 x6 x7 0) else (some x0)
def encoding_encodeByteStreamSplit.l1 : Nat → List Int → List Int → Int → Int → Int → Int → Option (List Int)
  | 0, _, _, _, _, _, _ => none
  | k + 1, x0, x1, x2, x6, x7, x8 => if x8 < x6 then (if 0 ≤ (wrap64 ((wrap64 (x2 * x8)) + x7)) then (if (wrap64 ((wrap64 (x2 * x8)) + x7)) < (x1.length : Int) then (if 0 ≤ (wrap64 ((wrap64 (x6 * x7)) + x8)) then (if (wrap64 ((wrap64 (x6 * x7)) + x8)) < (x0.length : Int) then (encoding_encodeByteStreamSplit.l1 k (x0.set ((wrap64 ((wrap64 (x6 * x7)) + x8)) : Int).toNat (rd x1 (wrap64 ((wrap64 (x2 * x8)) + x7)))) x1 x2 x6 x7 (wrap64 (x8 + 1))) else (none)) else (none)) else (none)) else (none)) else (encoding_encodeByteStreamSplit.l0 k x0 x1 x2 x6 (wrap64 (x7 + 1)))
end
def encoding_encodeByteStreamSplit.f (k : Nat) (l0 : List Int) (l1 : List Int) (a2 : Int) : Option (List Int) := if a2 = 0 then (none) else (encoding_encodeByteStreamSplit.l0 k l0 l1 a2 (wrap64 ((l1.length : Int) / a2)) 0)
theorem encoding_encodeByteStreamSplit.mono_l : ∀ k, (∀ y0 y1 y2 y3 y4, LeO (encoding_encodeByteStreamSplit.l0 k y0 y1 y2 y3 y4) (encoding_encodeByteStreamSplit.l0 (k + 1) y0 y1 y2 y3 y4)) ∧ (∀ y0 y1 y2 y3 y4 y5, LeO (encoding_encodeByteStreamSplit.l1 k y0 y1 y2 y3 y4 y5) (encoding_encodeByteStreamSplit.l1 (k + 1) y0 y1 y2 y3 y4 y5))
  | 0 => ⟨fun _ _ _ _ _ r h => by simp [encoding_encodeByteStreamSplit.l0] at h, fun _ _ _ _ _ _ r h => by simp [encoding_encodeByteStreamSplit.l1] at h⟩
  | k + 1 => by
    obtain ⟨ih0, ih1⟩ := encoding_encodeByteStreamSplit.mono_l k
    refine ⟨?_, ?_⟩
    · intro y0 y1 y2 y3 y4
      unfold encoding_encodeByteStreamSplit.l0
      repeat' first
      | (with_reducible exact ih0 _ _ _ _ _)
      | (with_reducible exact ih1 _ _ _ _ _ _)
      | (with_reducible exact LeO.refl _)
      | (with_reducible exact LeO.none _)
      | (with_reducible refine LeO.ite ?_ ?_)
      | (with_reducible refine LeO.bind ?_ (fun _ => ?_))
      | exact ih0 _ _ _ _ _
      | exact ih1 _ _ _ _ _ _
      | exact LeO.none _
      | refine LeO.ite ?_ ?_
      | refine LeO.bind ?_ (fun _ => ?_)
    · intro y0 y1 y2 y3 y4 y5
      unfold encoding_encodeByteStreamSplit.l1
      repeat' first
      | (with_reducible exact ih0 _ _ _ _ _)
      | (with_reducible exact ih1 _ _ _ _ _ _)
      | (with_reducible exact LeO.refl _)
      | (with_reducible exact LeO.none _)
      | (with_reducible refine LeO.ite ?_ ?_)
      | (with_reducible refine LeO.bind ?_ (fun _ => ?_))
      | exact ih0 _ _ _ _ _
      | exact ih1 _ _ _ _ _ _
      | exact LeO.none _
      | refine LeO.ite ?_ ?_
      | refine LeO.bind ?_ (fun _ => ?_)
theorem encoding_encodeByteStreamSplit.mono : ∀ a0 a1 a2 k, LeO (encoding_encodeByteStreamSplit.f k a0 a1 a2) (encoding_encodeByteStreamSplit.f (k + 1) a0 a1 a2) := by
  intro a0 a1 a2 k
  obtain ⟨ih0, ih1⟩ := encoding_encodeByteStreamSplit.mono_l k
  unfold encoding_encodeByteStreamSplit.f
  repeat' first
      | (with_reducible exact ih0 _ _ _ _ _)
      | (with_reducible exact ih1 _ _ _ _ _ _)
      | (with_reducible exact LeO.refl _)
      | (with_reducible exact LeO.none _)
      | (with_reducible refine LeO.ite ?_ ?_)
      | (with_reducible refine LeO.bind ?_ (fun _ => ?_))
      | exact ih0 _ _ _ _ _
      | exact ih1 _ _ _ _ _ _
      | exact LeO.none _
      | refine LeO.ite ?_ ?_
      | refine LeO.bind ?_ (fun _ => ?_)
set_option maxHeartbeats 8000000 in
set_option maxRecDepth 100000 in
theorem encoding_encodeByteStreamSplit.calls (k : Nat) (P0_ : Nat → Prop) (u9000_ : Value) (l0 : List Int) (A1 : Option Addr) (c1 : Nat) (l1 : List Int) (a2 : Int) (r : List Int) (w0 w : World) (hB : Below w0.heap.size w0 w) (ho0 : Kd.R (Kd.int .u8) 5 w w0.heap.size P0_ u9000_ l0) (hr1 : ∀ W_, Kept w W_ (fun k_ => P0_ k_) → Kd.C (Kd.int .u8) W_ A1 l1.length l1) (hc1 : l1.length ≤ c1) (h : encoding_encodeByteStreamSplit.f k l0 l1 a2 = some r) :
    Calls Try.prog 77 #[u9000_, .slice A1 l1.length c1, .int .i64 a2] w fun e w' => e = .returned (.tuple #[]) ∧ Kd.R (Kd.int .u8) 5 w' w0.heap.size (fun k_ => (P0_ k_ ∨ w.heap.size ≤ k_)) u9000_ r ∧ Below w0.heap.size w0 w' ∧ Kept w w' (fun k_ => P0_ k_) := by
  have HO0 := Aside0.mk (show Kd.R (Kd.int .u8) 5 w w0.heap.size (fun k_ => (P0_ k_ ∨ w.heap.size ≤ k_)) u9000_ l0 from Kd.R_mono ho0 (fun k_ hk => (.inl hk)))
  have HR1 := Aside0.mk hr1
  have HC1 := Aside0.mk hc1
  clear hr1 hc1
  have HK := Aside0.mk (Kept.refl w (fun k_ => P0_ k_))
  have HW0 := Aside0.mk hB.size
  have HB := Aside0.mk hB
  clear hB
  have H : (if a2 = 0 then (none) else (encoding_encodeByteStreamSplit.l0 k l0 l1 a2 (wrap64 ((l1.length : Int) / a2)) 0)) = some r := h
  clear h
  by_cases c4 : a2 = 0
  · rw [if_pos c4] at H
    exact absurd H (by simp)
  · rw [if_neg c4] at H
    have c4b0 : (a2 == 0) = false := beq_eq_false_iff_ne.mpr c4
    have c4b1 : (a2 != 0) = true := bne_iff_ne.mpr c4
    have H' := Aside0.mk H
    clear H
    obtain ⟨Ao5, co5, eo5⟩ := Kd.R_slice HO0.out
    subst eo5
    go_enter Try.func77, Try.ntmps77
    go_wp2_with (first | (go_at_call 87; (with_reducible refine (debug_Assert.calls _ _ _).mono ?_); rintro e w' ⟨rfl, ⟨nd, rfl⟩⟩) | ((with_reducible refine gate_callee (f := 87) rfl ?_); refine goesL_ _ rfl rfl Try.func87 (by kernel_rfl) rfl _ rfl (by (try simp only [List.map_toArray, List.map_cons, List.map_nil]); first | done | rfl) ?_; (with_reducible refine (debug_Assert.calls _ _ _).mono ?_); rintro e w' ⟨rfl, ⟨nd, rfl⟩⟩; refine ⟨_, rfl, ?_⟩))
    go_loopg [7] k (fun kq v7 w' => ∃ (x0_1 : List Int) (x7_1 : Int), v7 = .int .i64 x7_1 ∧ Aside0 (encoding_encodeByteStreamSplit.l0 kq x0_1 l1 a2 (wrap64 ((l1.length : Int) / a2)) x7_1 = some r) ∧ Aside0 (kq ≤ k) ∧ Aside0 (Kd.R (Kd.int .u8) 5 w' w0.heap.size (fun k_ => (P0_ k_ ∨ w.heap.size ≤ k_)) (.slice Ao5 l0.length co5) x0_1) ∧ Aside0 (Kept w w' (fun k_ => P0_ k_)) ∧ Aside0 (Below w0.heap.size w0 w'))
    case atStart => exact ⟨(l0), (0), (by first | rfl | (simp; done) | (simp [*]; done)), H', ⟨Nat.le_refl _⟩, ⟨by (with_reducible repeat (first | apply Kd.R_alloc | apply Kd.R_drewN | apply Kd.R_drew)); exact HO0.out⟩, ⟨by repeat (first | (with_reducible first | exact HK.out | apply Kept.alloc | apply Kept.drewN | apply Kept.drew) | exact HK.out)⟩, ⟨by repeat (first | (with_reducible first | exact HB.out | apply below_alloc | apply pw_below_drewN | apply below_drew1) | exact HB.out)⟩⟩
    case round =>
      clear H'
      try clear c1
      try clear p2
      try clear c4
      try clear c4b0
      try clear c4b1
      obtain ⟨x0_1, x7_1, rfl, HA, HK1, HO_0, HK, HB⟩ := hrel
      have hl0_1 := (Kd.R_reads' HO_0.out).1
      rw [hl0_1] at HO_0
      (try simp only [hl0_1])
      cases gk with
      | zero => exact absurd HA.out (by simp [encoding_encodeByteStreamSplit.l0])
      | succ k1 =>
        have H := HA.out
        clear HA
        simp only [encoding_encodeByteStreamSplit.l0] at H
        by_cases c6 : x7_1 < a2
        · rw [if_pos c6] at H
          have c6b0 : decide (x7_1 < a2) = true := decide_eq_true c6
          clear c6
          have H' := Aside0.mk H
          clear H
          go_wp2
          go_loopg [8] k1 (fun kq v8 w' => ∃ (x0_2 : List Int) (x8_2 : Int), v8 = .int .i64 x8_2 ∧ Aside0 (encoding_encodeByteStreamSplit.l1 kq x0_2 l1 a2 (wrap64 ((l1.length : Int) / a2)) x7_1 x8_2 = some r) ∧ Aside0 (kq ≤ k1) ∧ Aside0 (Kd.R (Kd.int .u8) 5 w' w0.heap.size (fun k_ => (P0_ k_ ∨ w.heap.size ≤ k_)) (.slice Ao5 x0_1.length co5) x0_2) ∧ Aside0 (Kept w w' (fun k_ => P0_ k_)) ∧ Aside0 (Below w0.heap.size w0 w'))
          case atStart => exact ⟨(x0_1), (0), (by first | rfl | (simp; done) | (simp [*]; done)), H', ⟨Nat.le_refl _⟩, ⟨by (try simp only [hl0_1]); (with_reducible repeat (first | apply Kd.R_alloc | apply Kd.R_drewN | apply Kd.R_drew)); exact HO_0.out⟩, ⟨by repeat (first | (with_reducible first | exact HK.out | apply Kept.alloc | apply Kept.drewN | apply Kept.drew) | exact HK.out)⟩, ⟨by repeat (first | (with_reducible first | exact HB.out | apply below_alloc | apply pw_below_drewN | apply below_drew1) | exact HB.out)⟩⟩
          case round =>
            clear H'
            try clear c1
            try clear p2
            try clear c4
            try clear c4b0
            try clear c4b1
            try clear c6
            try clear c6b0
            try clear p6
            try clear p2
            obtain ⟨x0_2, x8_2, rfl, HA, HK2, HO_0, HK, HB⟩ := hrel
            have hl0_2 := (Kd.R_reads' HO_0.out).1
            rw [hl0_2] at HO_0
            (try simp only [hl0_2])
            cases gk with
            | zero => exact absurd HA.out (by simp [encoding_encodeByteStreamSplit.l1])
            | succ k2 =>
              have H := HA.out
              clear HA
              simp only [encoding_encodeByteStreamSplit.l1] at H
              by_cases c7 : x8_2 < (wrap64 ((l1.length : Int) / a2))
              · rw [if_pos c7] at H
                have c7b0 : decide (x8_2 < (wrap64 ((l1.length : Int) / a2))) = true := decide_eq_true c7
                clear c7
                obtain ⟨ji8, hji8⟩ : ∃ j_ : Int, (wrap64 ((wrap64 (a2 * x8_2)) + x7_1)) = j_ := ⟨_, rfl⟩
                replace H : (if 0 ≤ (ji8) then (if (ji8) < (l1.length : Int) then (if 0 ≤ (wrap64 ((wrap64 ((wrap64 ((l1.length : Int) / a2)) * x7_1)) + x8_2)) then (if (wrap64 ((wrap64 ((wrap64 ((l1.length : Int) / a2)) * x7_1)) + x8_2)) < (x0_2.length : Int) then (encoding_encodeByteStreamSplit.l1 k2 (x0_2.set ((wrap64 ((wrap64 ((wrap64 ((l1.length : Int) / a2)) * x7_1)) + x8_2)) : Int).toNat (rd l1 (ji8))) l1 a2 (wrap64 ((l1.length : Int) / a2)) x7_1 (wrap64 (x8_2 + 1))) else (none)) else (none)) else (none)) else (none)) = some r := by first | (rw [hji8] at H; exact H) | (simp only [hji8] at H ⊢; exact H)
                have hji8w : (IntKind.i64.wrap ((wrap64 (a2 * x8_2)) + x7_1)) = ji8 := (i64_w _).trans hji8
                by_cases c9 : 0 ≤ (ji8)
                · rw [if_pos c9] at H
                  have c9b0 : decide (0 ≤ (ji8)) = true := decide_eq_true c9
                  clear c9
                  by_cases c10 : (ji8) < (l1.length : Int)
                  · rw [if_pos c10] at H
                    have c10b0 : decide ((ji8) < (l1.length : Int)) = true := decide_eq_true c10
                    clear c10
                    obtain ⟨ji11, hji11⟩ : ∃ j_ : Int, (wrap64 ((wrap64 ((wrap64 ((l1.length : Int) / a2)) * x7_1)) + x8_2)) = j_ := ⟨_, rfl⟩
                    replace H : (if 0 ≤ (ji11) then (if (ji11) < (x0_2.length : Int) then (encoding_encodeByteStreamSplit.l1 k2 (x0_2.set ((ji11) : Int).toNat (rd l1 (ji8))) l1 a2 (wrap64 ((l1.length : Int) / a2)) x7_1 (wrap64 (x8_2 + 1))) else (none)) else (none)) = some r := by first | (rw [hji11] at H; exact H) | (simp only [hji11] at H ⊢; exact H)
                    have hji11w : (IntKind.i64.wrap ((wrap64 ((wrap64 ((l1.length : Int) / a2)) * x7_1)) + x8_2)) = ji11 := (i64_w _).trans hji11
                    by_cases c12 : 0 ≤ (ji11)
                    · rw [if_pos c12] at H
                      have c12b0 : decide (0 ≤ (ji11)) = true := decide_eq_true c12
                      clear c12
                      by_cases c13 : (ji11) < (x0_2.length : Int)
                      · rw [if_pos c13] at H
                        have c13b0 : decide ((ji11) < (x0_2.length : Int)) = true := decide_eq_true c13
                        clear c13
                        obtain ⟨y130, hy130⟩ : ∃ y_ : List Int, y_ = (x0_2.set ((ji11) : Int).toNat (rd l1 (ji8))) := ⟨_, rfl⟩
                        replace H : (encoding_encodeByteStreamSplit.l1 k2 y130 l1 a2 (wrap64 ((l1.length : Int) / a2)) x7_1 (wrap64 (x8_2 + 1))) = some r := by first | (rw [hy130]; with_reducible exact H) | (have H2_ := (Option.bind_some _ _).symm.trans H; rw [hy130]; with_reducible exact H2_) | (have H2_ := (Option.bind_some _ _).symm.trans H; with_reducible exact H2_) | with_reducible exact H | (rw [hy130]; exact H) | exact H
                        have Ny130 := Aside0.mk hy130
                        clear hy130
                        have H' := Aside0.mk H
                        clear H
                        have p129 : 0 ≤ ((ji8) : Int) := of_decide_eq_true (by first | (with_reducible assumption) | assumption)
                        have q129 : (ji8) < (l1.length : Int) := of_decide_eq_true (by first | (with_reducible assumption) | assumption)
                        obtain ⟨ad129, e129, hx129_0⟩ := Kd.at_int (Kd.C_kept_now HR1.out HK.out) (ji8) p129 q129
                        cases e129
                        replace p129 := eq_true p129
                        replace q129 := eq_true q129
                        have p14 : 0 ≤ ((ji11) : Int) := of_decide_eq_true (by first | (with_reducible assumption) | assumption)
                        have q14 : ((ji11) : Int) < ((x0_2.length : Int) : Int) := of_decide_eq_true (by first | (with_reducible assumption) | assumption)
                        obtain ⟨go14, co14, eo14, gb14, gl14, cl14, HG14⟩ := Kd.R_form HO_0.out (by omega)
                        (first | cases eo14 | (injection eo14 with ea_ en_ ec_; (first | subst ea_ | (injection ea_ with ea_; subst ea_)); subst ec_; clear en_))
                        have GB14 := Aside0.mk gb14
                        have GG14 := Aside0.mk HG14
                        clear gb14 gl14 HG14
                        have HMgo14 := Aside0.mk (show (P0_ go14 ∨ w.heap.size ≤ go14) from (HO_0.out.1 _ rfl))
                        obtain ⟨hx14_0, hf14_0⟩ := Kd.R_celln 0 HO_0.out ((ji11) : Int) p14 q14
                        replace p14 := eq_true p14
                        replace q14 := eq_true q14
                        have HP15 := Kd.R_putg HO_0.out ((ji11) : Int) (rd l1 (ji8))
                        go_wp2_with (first | ((with_reducible refine gate_store (t := 5) (p := 48) rfl ?_); refine store_event (t := 5) (p := 48) (v := ?vo_w16) (w1 := (wr.setCell ⟨go14, ((ji11) : Int).toNat, none⟩ (.int .u8 (rd l1 (ji8))))) ?hg ?ho ?hn ?hr ?_; (case ho => rfl); (case hg => rfl); (case hn => rfl); (case hr => first | (go_simp; done) | (go_simp; rfl)); intro w16 hw; have hg : wr.grownBy w16 (some go14) := (by rw [hw]; exact HP15.2); have hp_ : Kd.R (Kd.int .u8) 5 w16 w0.heap.size (fun k_ => (P0_ k_ ∨ w.heap.size ≤ k_)) (.slice (some ⟨go14, 0, none⟩) x0_2.length co5) y130 := (by rw [hw, Ny130.out]; exact HP15.1); clear HP15; have n0_ := Aside0.mk (hp_); have n1_ := Aside0.mk ((by rw [hw]; exact below_set (HB.out) GB14.out : Below w0.heap.size w0 w16)); have n2_ := Aside0.mk (Kept.of_grown (S := (fun k_ => P0_ k_)) hg (by repeat (first | (with_reducible first | exact HK.out | apply Kept.alloc | apply Kept.drewN | apply Kept.drew) | exact HK.out)) (fun k_ e_ => (HO_0.out.1 k_ e_))); clear HO_0; clear HB; clear HK; have HO_0 := n0_; have HB := n1_; have HK := n2_; clear n0_ n1_ n2_; clear hg hw hp_))
                        (try simp only [← hl0_2])
                        go_roundg k2
                        case measure => have := HK1.out; have := HK2.out; omega
                        case rel => exact ⟨(y130), (wrap64 (x8_2 + 1)), (by first | rfl | (simp; done) | (simp [*]; done)), H', ⟨by have := HK1.out; have := HK2.out; omega⟩, ⟨by (try simp only [hl0_1]); (try simp only [hl0_2]); (with_reducible repeat (first | apply Kd.R_alloc | apply Kd.R_drewN | apply Kd.R_drew)); exact HO_0.out⟩, ⟨by repeat (first | (with_reducible first | exact HK.out | apply Kept.alloc | apply Kept.drewN | apply Kept.drew) | exact HK.out)⟩, ⟨by repeat (first | (with_reducible first | exact HB.out | apply below_alloc | apply pw_below_drewN | apply below_drew1) | exact HB.out)⟩⟩
                      · rw [if_neg c13] at H
                        exact absurd H (by simp)
                    · rw [if_neg c12] at H
                      exact absurd H (by simp)
                  · rw [if_neg c10] at H
                    exact absurd H (by simp)
                · rw [if_neg c9] at H
                  exact absurd H (by simp)
              · rw [if_neg c7] at H
                have c7b0 : decide (x8_2 < (wrap64 ((l1.length : Int) / a2))) = false := decide_eq_false c7
                clear c7
                have H' := Aside0.mk H
                clear H
                go_wp2
                (try simp only [← hl0_1, ← hl0_2])
                go_roundg k2
                case measure => have := HK1.out; have := HK2.out; omega
                case rel => exact ⟨(x0_2), (wrap64 (x7_1 + 1)), (by first | rfl | (simp; done) | (simp [*]; done)), H', ⟨by have := HK1.out; have := HK2.out; omega⟩, ⟨by (try simp only [hl0_1]); (try simp only [hl0_2]); (with_reducible repeat (first | apply Kd.R_alloc | apply Kd.R_drewN | apply Kd.R_drew)); exact HO_0.out⟩, ⟨by repeat (first | (with_reducible first | exact HK.out | apply Kept.alloc | apply Kept.drewN | apply Kept.drew) | exact HK.out)⟩, ⟨by repeat (first | (with_reducible first | exact HB.out | apply below_alloc | apply pw_below_drewN | apply below_drew1) | exact HB.out)⟩⟩
        · rw [if_neg c6] at H
          have c6b0 : decide (x7_1 < a2) = false := decide_eq_false c6
          clear c6
          obtain rfl := Option.some.inj H
          go_wp2
          first | go_end0 | ((try simp only [Exit.inBlock, Exit.then]); refine bodyPost_ret (results_none rfl _ _ _) rfl ?_)
          exact ⟨by first | rfl | (simp [errW_none, errW_some] <;> rfl) | (simp [*, errW_none, errW_some] <;> rfl), (by first | exact (by (with_reducible repeat (first | apply Kd.R_alloc | apply Kd.R_drewN | apply Kd.R_drew)); exact HO_0.out) | (simp only [hl0_1]; exact (by (with_reducible repeat (first | apply Kd.R_alloc | apply Kd.R_drewN | apply Kd.R_drew)); exact HO_0.out))), by repeat (first | (with_reducible first | exact HB.out | apply below_alloc | apply pw_below_drewN | apply below_drew1) | exact HB.out), by repeat (first | (with_reducible first | exact HK.out | apply Kept.alloc | apply Kept.drewN | apply Kept.drew) | exact HK.out)⟩

/-! ### encoding_EncodeByteStreamSplit: function 61 -/
def encoding_EncodeByteStreamSplit.f (k : Nat) (l0 : List Int) (l1 : List Int) (a2 : Int) : Option (List Int) := if a2 = 2 then ((encoding_encodeByteStreamSplitWidth2.f k l0 l1).bind fun t131 => (some t131)) else (if a2 = 4 then ((encoding_encodeByteStreamSplitWidth4.f k l0 l1).bind fun t132 => (some t132)) else (if a2 = 8 then ((encoding_encodeByteStreamSplitWidth8.f k l0 l1).bind fun t133 => (some t133)) else ((encoding_encodeByteStreamSplit.f k l0 l1 a2).bind fun t134 => (some t134))))
theorem encoding_EncodeByteStreamSplit.mono : ∀ a0 a1 a2 k, LeO (encoding_EncodeByteStreamSplit.f k a0 a1 a2) (encoding_EncodeByteStreamSplit.f (k + 1) a0 a1 a2) := by
  intro a0 a1 a2 k
  unfold encoding_EncodeByteStreamSplit.f
  repeat' first
      | (with_reducible exact encoding_encodeByteStreamSplit.mono _ _ _ _)
      | (with_reducible exact encoding_encodeByteStreamSplitWidth2.mono _ _ _)
      | (with_reducible exact encoding_encodeByteStreamSplitWidth4.mono _ _ _)
      | (with_reducible exact encoding_encodeByteStreamSplitWidth8.mono _ _ _)
      | (with_reducible exact LeO.refl _)
      | (with_reducible exact LeO.none _)
      | (with_reducible refine LeO.ite ?_ ?_)
      | (with_reducible refine LeO.bind ?_ (fun _ => ?_))
      | exact encoding_encodeByteStreamSplit.mono _ _ _ _
      | exact encoding_encodeByteStreamSplitWidth2.mono _ _ _
      | exact encoding_encodeByteStreamSplitWidth4.mono _ _ _
      | exact encoding_encodeByteStreamSplitWidth8.mono _ _ _
      | exact LeO.none _
      | refine LeO.ite ?_ ?_
      | refine LeO.bind ?_ (fun _ => ?_)
set_option maxHeartbeats 8000000 in
set_option maxRecDepth 100000 in
theorem encoding_EncodeByteStreamSplit.calls (k : Nat) (P0_ : Nat → Prop) (u9000_ : Value) (l0 : List Int) (A1 : Option Addr) (c1 : Nat) (l1 : List Int) (a2 : Int) (r : List Int) (w0 w : World) (hB : Below w0.heap.size w0 w) (ho0 : Kd.R (Kd.int .u8) 5 w w0.heap.size P0_ u9000_ l0) (hr1 : ∀ W_, Kept w W_ (fun k_ => P0_ k_) → Kd.C (Kd.int .u8) W_ A1 l1.length l1) (hc1 : l1.length ≤ c1) (h : encoding_EncodeByteStreamSplit.f k l0 l1 a2 = some r) :
    Calls Try.prog 61 #[u9000_, .slice A1 l1.length c1, .int .i64 a2] w fun e w' => e = .returned (.tuple #[]) ∧ Kd.R (Kd.int .u8) 5 w' w0.heap.size (fun k_ => (P0_ k_ ∨ w.heap.size ≤ k_)) u9000_ r ∧ Below w0.heap.size w0 w' ∧ Kept w w' (fun k_ => P0_ k_) := by
  have HO0 := Aside0.mk (show Kd.R (Kd.int .u8) 5 w w0.heap.size (fun k_ => (P0_ k_ ∨ w.heap.size ≤ k_)) u9000_ l0 from Kd.R_mono ho0 (fun k_ hk => (.inl hk)))
  have HR1 := Aside0.mk hr1
  have HC1 := Aside0.mk hc1
  clear hr1 hc1
  have HK := Aside0.mk (Kept.refl w (fun k_ => P0_ k_))
  have HW0 := Aside0.mk hB.size
  have HB := Aside0.mk hB
  clear hB
  have H : (if a2 = 2 then ((encoding_encodeByteStreamSplitWidth2.f k l0 l1).bind fun t131 => (some t131)) else (if a2 = 4 then ((encoding_encodeByteStreamSplitWidth4.f k l0 l1).bind fun t132 => (some t132)) else (if a2 = 8 then ((encoding_encodeByteStreamSplitWidth8.f k l0 l1).bind fun t133 => (some t133)) else ((encoding_encodeByteStreamSplit.f k l0 l1 a2).bind fun t134 => (some t134))))) = some r := h
  clear h
  by_cases c4 : a2 = 2
  · rw [if_pos c4] at H
    have c4b0 : (a2 == 2) = true := beq_iff_eq.mpr c4
    have c4b1 : (a2 != 2) = false := bne_eq_false_iff_eq.mpr c4
    clear c4
    replace H := Option.bind_eq_some_iff.mp H
    obtain ⟨t131, A50, H⟩ := H
    replace H : (some t131) = some r := H
    have A5 := Aside0.mk A50
    clear A50
    obtain rfl := Option.some.inj H
    obtain ⟨Ao6, co6, eo6⟩ := Kd.R_slice HO0.out
    subst eo6
    go_enter Try.func61, Try.ntmps61
    go_wp2_with (first | ((with_reducible refine gate_callee (f := 74) rfl ?_); refine goesL_ (some 15) rfl rfl Try.func74 (by kernel_rfl) rfl #[.slice Ao6 l0.length co6, .slice A1 l1.length c1] rfl (by (try simp only [List.map_toArray, List.map_cons, List.map_nil]); first | done | rfl | (simp only [List.length_drop, List.length_take]; rfl)) ?_; (with_reducible refine (encoding_encodeByteStreamSplitWidth2.calls k (fun k_ => some k_ = (.slice Ao6 l0.length co6 : Value).ownBlock) (.slice Ao6 l0.length co6) l0 _ _ l1 t131 w0 _ ?side1 ?side2 ?side3 ?side4 A5.out).mono ?_); (case side1 => repeat (first | (with_reducible first | exact HB.out | apply below_alloc | apply pw_below_drewN | apply below_drew1) | exact HB.out)); (case side2 => exact Kd.R_tight rfl HO0.out); (case side3 => exact Kd.C_kept_call HR1.out (by repeat (first | (with_reducible first | exact HK.out | apply Kept.alloc | apply Kept.drewN | apply Kept.drew) | exact HK.out)) (fun k_ hs_ => (fun e_ => (HO0.out.1 k_ e_.symm)) hs_)); (case side4 => exact HC1.out); rintro e w7 ⟨rfl, hy0, hb, hkp⟩; refine ⟨_, rfl, ?_⟩; have n0_ := Aside0.mk (Kd.R_reok rfl hy0 (fun k_ e_ => HO0.out.1 k_ e_)); have n1_ := Aside0.mk (Kept.then_ (S := (fun k_ => P0_ k_)) (by repeat (first | (with_reducible first | exact HK.out | apply Kept.alloc | apply Kept.drewN | apply Kept.drew) | exact HK.out)) hkp (fun k_ hs_ => (fun e_ => (HO0.out.1 k_ e_.symm)) hs_)); have n2_ := Aside0.mk (hb); clear HO0; clear HK; clear HB; have HO0 := n0_; have HK := n1_; have HB := n2_; clear n0_ n1_ n2_; (try clear hb); (try clear hkp); (try clear hy0)))
    first | go_end0 | ((try simp only [Exit.inBlock, Exit.then]); refine bodyPost_ret (results_none rfl _ _ _) rfl ?_)
    exact ⟨by first | rfl | (simp [errW_none, errW_some] <;> rfl) | (simp [*, errW_none, errW_some] <;> rfl), by (with_reducible repeat (first | apply Kd.R_alloc | apply Kd.R_drewN | apply Kd.R_drew)); exact HO0.out, by repeat (first | (with_reducible first | exact HB.out | apply below_alloc | apply pw_below_drewN | apply below_drew1) | exact HB.out), by repeat (first | (with_reducible first | exact HK.out | apply Kept.alloc | apply Kept.drewN | apply Kept.drew) | exact HK.out)⟩
  · rw [if_neg c4] at H
    have c4b0 : (a2 == 2) = false := beq_eq_false_iff_ne.mpr c4
    have c4b1 : (a2 != 2) = true := bne_iff_ne.mpr c4
    by_cases c8 : a2 = 4
    · rw [if_pos c8] at H
      have c8b0 : (a2 == 4) = true := beq_iff_eq.mpr c8
      have c8b1 : (a2 != 4) = false := bne_eq_false_iff_eq.mpr c8
      clear c8
      replace H := Option.bind_eq_some_iff.mp H
      obtain ⟨t132, A90, H⟩ := H
      replace H : (some t132) = some r := H
      have A9 := Aside0.mk A90
      clear A90
      obtain rfl := Option.some.inj H
      obtain ⟨Ao10, co10, eo10⟩ := Kd.R_slice HO0.out
      subst eo10
      go_enter Try.func61, Try.ntmps61
      go_wp2_with (first | ((with_reducible refine gate_callee (f := 75) rfl ?_); refine goesL_ (some 20) rfl rfl Try.func75 (by kernel_rfl) rfl #[.slice Ao10 l0.length co10, .slice A1 l1.length c1] rfl (by (try simp only [List.map_toArray, List.map_cons, List.map_nil]); first | done | rfl | (simp only [List.length_drop, List.length_take]; rfl)) ?_; (with_reducible refine (encoding_encodeByteStreamSplitWidth4.calls k (fun k_ => some k_ = (.slice Ao10 l0.length co10 : Value).ownBlock) (.slice Ao10 l0.length co10) l0 _ _ l1 t132 w0 _ ?side1 ?side2 ?side3 ?side4 A9.out).mono ?_); (case side1 => repeat (first | (with_reducible first | exact HB.out | apply below_alloc | apply pw_below_drewN | apply below_drew1) | exact HB.out)); (case side2 => exact Kd.R_tight rfl HO0.out); (case side3 => exact Kd.C_kept_call HR1.out (by repeat (first | (with_reducible first | exact HK.out | apply Kept.alloc | apply Kept.drewN | apply Kept.drew) | exact HK.out)) (fun k_ hs_ => (fun e_ => (HO0.out.1 k_ e_.symm)) hs_)); (case side4 => exact HC1.out); rintro e w11 ⟨rfl, hy0, hb, hkp⟩; refine ⟨_, rfl, ?_⟩; have n0_ := Aside0.mk (Kd.R_reok rfl hy0 (fun k_ e_ => HO0.out.1 k_ e_)); have n1_ := Aside0.mk (Kept.then_ (S := (fun k_ => P0_ k_)) (by repeat (first | (with_reducible first | exact HK.out | apply Kept.alloc | apply Kept.drewN | apply Kept.drew) | exact HK.out)) hkp (fun k_ hs_ => (fun e_ => (HO0.out.1 k_ e_.symm)) hs_)); have n2_ := Aside0.mk (hb); clear HO0; clear HK; clear HB; have HO0 := n0_; have HK := n1_; have HB := n2_; clear n0_ n1_ n2_; (try clear hb); (try clear hkp); (try clear hy0)))
      first | go_end0 | ((try simp only [Exit.inBlock, Exit.then]); refine bodyPost_ret (results_none rfl _ _ _) rfl ?_)
      exact ⟨by first | rfl | (simp [errW_none, errW_some] <;> rfl) | (simp [*, errW_none, errW_some] <;> rfl), by (with_reducible repeat (first | apply Kd.R_alloc | apply Kd.R_drewN | apply Kd.R_drew)); exact HO0.out, by repeat (first | (with_reducible first | exact HB.out | apply below_alloc | apply pw_below_drewN | apply below_drew1) | exact HB.out), by repeat (first | (with_reducible first | exact HK.out | apply Kept.alloc | apply Kept.drewN | apply Kept.drew) | exact HK.out)⟩
    · rw [if_neg c8] at H
      have c8b0 : (a2 == 4) = false := beq_eq_false_iff_ne.mpr c8
      have c8b1 : (a2 != 4) = true := bne_iff_ne.mpr c8
      by_cases c12 : a2 = 8
      · rw [if_pos c12] at H
        have c12b0 : (a2 == 8) = true := beq_iff_eq.mpr c12
        have c12b1 : (a2 != 8) = false := bne_eq_false_iff_eq.mpr c12
        clear c12
        replace H := Option.bind_eq_some_iff.mp H
        obtain ⟨t133, A130, H⟩ := H
        replace H : (some t133) = some r := H
        have A13 := Aside0.mk A130
        clear A130
        obtain rfl := Option.some.inj H
        obtain ⟨Ao14, co14, eo14⟩ := Kd.R_slice HO0.out
        subst eo14
        go_enter Try.func61, Try.ntmps61
        go_wp2_with (first | ((with_reducible refine gate_callee (f := 76) rfl ?_); refine goesL_ (some 25) rfl rfl Try.func76 (by kernel_rfl) rfl #[.slice Ao14 l0.length co14, .slice A1 l1.length c1] rfl (by (try simp only [List.map_toArray, List.map_cons, List.map_nil]); first | done | rfl | (simp only [List.length_drop, List.length_take]; rfl)) ?_; (with_reducible refine (encoding_encodeByteStreamSplitWidth8.calls k (fun k_ => some k_ = (.slice Ao14 l0.length co14 : Value).ownBlock) (.slice Ao14 l0.length co14) l0 _ _ l1 t133 w0 _ ?side1 ?side2 ?side3 ?side4 A13.out).mono ?_); (case side1 => repeat (first | (with_reducible first | exact HB.out | apply below_alloc | apply pw_below_drewN | apply below_drew1) | exact HB.out)); (case side2 => exact Kd.R_tight rfl HO0.out); (case side3 => exact Kd.C_kept_call HR1.out (by repeat (first | (with_reducible first | exact HK.out | apply Kept.alloc | apply Kept.drewN | apply Kept.drew) | exact HK.out)) (fun k_ hs_ => (fun e_ => (HO0.out.1 k_ e_.symm)) hs_)); (case side4 => exact HC1.out); rintro e w15 ⟨rfl, hy0, hb, hkp⟩; refine ⟨_, rfl, ?_⟩; have n0_ := Aside0.mk (Kd.R_reok rfl hy0 (fun k_ e_ => HO0.out.1 k_ e_)); have n1_ := Aside0.mk (Kept.then_ (S := (fun k_ => P0_ k_)) (by repeat (first | (with_reducible first | exact HK.out | apply Kept.alloc | apply Kept.drewN | apply Kept.drew) | exact HK.out)) hkp (fun k_ hs_ => (fun e_ => (HO0.out.1 k_ e_.symm)) hs_)); have n2_ := Aside0.mk (hb); clear HO0; clear HK; clear HB; have HO0 := n0_; have HK := n1_; have HB := n2_; clear n0_ n1_ n2_; (try clear hb); (try clear hkp); (try clear hy0)))
        first | go_end0 | ((try simp only [Exit.inBlock, Exit.then]); refine bodyPost_ret (results_none rfl _ _ _) rfl ?_)
        exact ⟨by first | rfl | (simp [errW_none, errW_some] <;> rfl) | (simp [*, errW_none, errW_some] <;> rfl), by (with_reducible repeat (first | apply Kd.R_alloc | apply Kd.R_drewN | apply Kd.R_drew)); exact HO0.out, by repeat (first | (with_reducible first | exact HB.out | apply below_alloc | apply pw_below_drewN | apply below_drew1) | exact HB.out), by repeat (first | (with_reducible first | exact HK.out | apply Kept.alloc | apply Kept.drewN | apply Kept.drew) | exact HK.out)⟩
      · rw [if_neg c12] at H
        have c12b0 : (a2 == 8) = false := beq_eq_false_iff_ne.mpr c12
        have c12b1 : (a2 != 8) = true := bne_iff_ne.mpr c12
        replace H := Option.bind_eq_some_iff.mp H
        obtain ⟨t134, A160, H⟩ := H
        replace H : (some t134) = some r := H
        have A16 := Aside0.mk A160
        clear A160
        obtain rfl := Option.some.inj H
        obtain ⟨Ao17, co17, eo17⟩ := Kd.R_slice HO0.out
        subst eo17
        go_enter Try.func61, Try.ntmps61
        go_wp2_with (first | ((with_reducible refine gate_callee (f := 77) rfl ?_); refine goesL_ (some 10) rfl rfl Try.func77 (by kernel_rfl) rfl #[.slice Ao17 l0.length co17, .slice A1 l1.length c1, .int .i64 a2] rfl (by (try simp only [List.map_toArray, List.map_cons, List.map_nil]); first | done | rfl | (simp only [List.length_drop, List.length_take]; rfl)) ?_; (with_reducible refine (encoding_encodeByteStreamSplit.calls k (fun k_ => some k_ = (.slice Ao17 l0.length co17 : Value).ownBlock) (.slice Ao17 l0.length co17) l0 _ _ l1 a2 t134 w0 _ ?side1 ?side2 ?side3 ?side4 A16.out).mono ?_); (case side1 => repeat (first | (with_reducible first | exact HB.out | apply below_alloc | apply pw_below_drewN | apply below_drew1) | exact HB.out)); (case side2 => exact Kd.R_tight rfl HO0.out); (case side3 => exact Kd.C_kept_call HR1.out (by repeat (first | (with_reducible first | exact HK.out | apply Kept.alloc | apply Kept.drewN | apply Kept.drew) | exact HK.out)) (fun k_ hs_ => (fun e_ => (HO0.out.1 k_ e_.symm)) hs_)); (case side4 => exact HC1.out); rintro e w18 ⟨rfl, hy0, hb, hkp⟩; refine ⟨_, rfl, ?_⟩; have n0_ := Aside0.mk (Kd.R_reok rfl hy0 (fun k_ e_ => HO0.out.1 k_ e_)); have n1_ := Aside0.mk (Kept.then_ (S := (fun k_ => P0_ k_)) (by repeat (first | (with_reducible first | exact HK.out | apply Kept.alloc | apply Kept.drewN | apply Kept.drew) | exact HK.out)) hkp (fun k_ hs_ => (fun e_ => (HO0.out.1 k_ e_.symm)) hs_)); have n2_ := Aside0.mk (hb); clear HO0; clear HK; clear HB; have HO0 := n0_; have HK := n1_; have HB := n2_; clear n0_ n1_ n2_; (try clear hb); (try clear hkp); (try clear hy0)))
        first | go_end0 | ((try simp only [Exit.inBlock, Exit.then]); refine bodyPost_ret (results_none rfl _ _ _) rfl ?_)
        exact ⟨by first | rfl | (simp [errW_none, errW_some] <;> rfl) | (simp [*, errW_none, errW_some] <;> rfl), by (with_reducible repeat (first | apply Kd.R_alloc | apply Kd.R_drewN | apply Kd.R_drew)); exact HO0.out, by repeat (first | (with_reducible first | exact HB.out | apply below_alloc | apply pw_below_drewN | apply below_drew1) | exact HB.out), by repeat (first | (with_reducible first | exact HK.out | apply Kept.alloc | apply Kept.drewN | apply Kept.drew) | exact HK.out)⟩

end Go.Proofs.Ytnjniacohbeonaa.Q
