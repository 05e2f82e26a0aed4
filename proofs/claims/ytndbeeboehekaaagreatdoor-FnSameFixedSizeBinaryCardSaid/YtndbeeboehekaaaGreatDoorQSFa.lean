-- written by programs of ours (wip/tools) out of the kit's printer: the functions of one law, less those that are shared or proved by hand
import Derived.Test.YtndbeeboehekaaaGreatDoorQ0
namespace Go.Proofs.YtndbeeboehekaaaGreatDoor.Q
open Go.RowKit Go.Proofs.YtndbeeboehekaaaGreatDoorW.PrintWords Go.Proofs.YtndbeeboehekaaaGreatDoorW.PrintLast Go.Proofs.YtndbeeboehekaaaGreatDoorW.PrintMore
attribute [local go_sem] max2_int min2_int max_two min_two max_three min_three max_four min_four
set_option linter.unusedVariables false
set_option linter.unusedSimpArgs false

/-! ### impl_alike: function 8 -/
mutual
def impl_alike.j0 : Nat → List (S25) → Int → Int → List (S25) → Int → Bool → Option (Bool)
  | 0, _, _, _, _, _, _ => none
  | k + 1, x0, x1, x2, x3, x4, x50 => if x50 = true then (some false) else (impl_alike.l0 k x0 x1 x3 x4 (wrap64 (x2 - x1)) 0)
def impl_alike.l0 : Nat → List (S25) → Int → List (S25) → Int → Int → Int → Option (Bool)
  | 0, _, _, _, _, _, _ => none
  | k + 1, x0, x1, x3, x4, x53, x54 => if x54 < x53 then (if 0 ≤ (wrap64 (x1 + x54)) then (if (wrap64 (x1 + x54)) < (x0.length : Int) then (if 0 ≤ (wrap64 (x4 + x54)) then (if (wrap64 (x4 + x54)) < (x3.length : Int) then (if (((rd_T25 x0 (wrap64 (x1 + x54))).f0) != ((rd_T25 x3 (wrap64 (x4 + x54))).f0)) = true then (some false) else (impl_alike.l0 k x0 x1 x3 x4 x53 (wrap64 (x54 + 1)))) else (none)) else (none)) else (none)) else (none)) else (some true)
end
def impl_alike.f (k : Nat) (l0 : List (S25)) (a1 : Int) (a2 : Int) (l3 : List (S25)) (a4 : Int) (a5 : Int) : Option (Bool) := if a1 < 0 then (impl_alike.j0 k l0 a1 a2 l3 a4 true) else (if a2 < a1 then (impl_alike.j0 k l0 a1 a2 l3 a4 true) else (if (l0.length : Int) < a2 then (impl_alike.j0 k l0 a1 a2 l3 a4 true) else (if a4 < 0 then (impl_alike.j0 k l0 a1 a2 l3 a4 true) else (if a5 < a4 then (impl_alike.j0 k l0 a1 a2 l3 a4 true) else (if (l3.length : Int) < a5 then (impl_alike.j0 k l0 a1 a2 l3 a4 true) else (impl_alike.j0 k l0 a1 a2 l3 a4 ((wrap64 (a2 - a1)) != (wrap64 (a5 - a4)))))))))
theorem impl_alike.mono_l : ∀ k, (∀ y0 y1 y2 y3 y4 y5, LeO (impl_alike.j0 k y0 y1 y2 y3 y4 y5) (impl_alike.j0 (k + 1) y0 y1 y2 y3 y4 y5)) ∧ (∀ y0 y1 y2 y3 y4 y5, LeO (impl_alike.l0 k y0 y1 y2 y3 y4 y5) (impl_alike.l0 (k + 1) y0 y1 y2 y3 y4 y5))
  | 0 => ⟨fun _ _ _ _ _ _ r h => by simp [impl_alike.j0] at h, fun _ _ _ _ _ _ r h => by simp [impl_alike.l0] at h⟩
  | k + 1 => by
    obtain ⟨ih0, ih1⟩ := impl_alike.mono_l k
    refine ⟨?_, ?_⟩
    · intro y0 y1 y2 y3 y4 y5
      unfold impl_alike.j0
      repeat' first
      | (with_reducible exact ih0 _ _ _ _ _ _)
      | (with_reducible exact ih1 _ _ _ _ _ _)
      | (with_reducible exact LeO.refl _)
      | (with_reducible exact LeO.none _)
      | (with_reducible refine LeO.ite ?_ ?_)
      | (with_reducible refine LeO.bind ?_ (fun _ => ?_))
      | exact ih0 _ _ _ _ _ _
      | exact ih1 _ _ _ _ _ _
      | exact LeO.none _
      | refine LeO.ite ?_ ?_
      | refine LeO.bind ?_ (fun _ => ?_)
    · intro y0 y1 y2 y3 y4 y5
      unfold impl_alike.l0
      repeat' first
      | (with_reducible exact ih0 _ _ _ _ _ _)
      | (with_reducible exact ih1 _ _ _ _ _ _)
      | (with_reducible exact LeO.refl _)
      | (with_reducible exact LeO.none _)
      | (with_reducible refine LeO.ite ?_ ?_)
      | (with_reducible refine LeO.bind ?_ (fun _ => ?_))
      | exact ih0 _ _ _ _ _ _
      | exact ih1 _ _ _ _ _ _
      | exact LeO.none _
      | refine LeO.ite ?_ ?_
      | refine LeO.bind ?_ (fun _ => ?_)
theorem impl_alike.mono : ∀ a0 a1 a2 a3 a4 a5 k, LeO (impl_alike.f k a0 a1 a2 a3 a4 a5) (impl_alike.f (k + 1) a0 a1 a2 a3 a4 a5) := by
  intro a0 a1 a2 a3 a4 a5 k
  obtain ⟨ih0, ih1⟩ := impl_alike.mono_l k
  unfold impl_alike.f
  repeat' first
      | (with_reducible exact ih0 _ _ _ _ _ _)
      | (with_reducible exact ih1 _ _ _ _ _ _)
      | (with_reducible exact LeO.refl _)
      | (with_reducible exact LeO.none _)
      | (with_reducible refine LeO.ite ?_ ?_)
      | (with_reducible refine LeO.bind ?_ (fun _ => ?_))
      | exact ih0 _ _ _ _ _ _
      | exact ih1 _ _ _ _ _ _
      | exact LeO.none _
      | refine LeO.ite ?_ ?_
      | refine LeO.bind ?_ (fun _ => ?_)
set_option maxHeartbeats 8000000 in
set_option maxRecDepth 100000 in
theorem impl_alike.calls (k : Nat) (A0 : Option Addr) (c0 : Nat) (l0 : List (S25)) (a1 : Int) (a2 : Int) (A3 : Option Addr) (c3 : Nat) (l3 : List (S25)) (a4 : Int) (a5 : Int) (r : Bool) (w : World) (hr0 : Kd.C k25 w A0 l0.length l0) (hc0 : l0.length ≤ c0) (hr3 : Kd.C k25 w A3 l3.length l3) (hc3 : l3.length ≤ c3) (h : impl_alike.f k l0 a1 a2 l3 a4 a5 = some r) :
    Calls Tryz.prog 8 #[.slice A0 l0.length c0, .int .i64 a1, .int .i64 a2, .slice A3 l3.length c3, .int .i64 a4, .int .i64 a5] w fun e w' => e = .returned (.bool r) ∧ Drawn0 w w' := by
  have HR0 := Aside0.mk hr0
  have HC0 := Aside0.mk hc0
  clear hr0 hc0
  have HR3 := Aside0.mk hr3
  have HC3 := Aside0.mk hc3
  clear hr3 hc3
  have H : (if a1 < 0 then (impl_alike.j0 k l0 a1 a2 l3 a4 true) else (if a2 < a1 then (impl_alike.j0 k l0 a1 a2 l3 a4 true) else (if (l0.length : Int) < a2 then (impl_alike.j0 k l0 a1 a2 l3 a4 true) else (if a4 < 0 then (impl_alike.j0 k l0 a1 a2 l3 a4 true) else (if a5 < a4 then (impl_alike.j0 k l0 a1 a2 l3 a4 true) else (if (l3.length : Int) < a5 then (impl_alike.j0 k l0 a1 a2 l3 a4 true) else (impl_alike.j0 k l0 a1 a2 l3 a4 ((wrap64 (a2 - a1)) != (wrap64 (a5 - a4)))))))))) = some r := h
  clear h
  have HC7 := Aside0.mk H
  clear H
  go_enter Tryz.func8, Tryz.ntmps8
  go_upto_region 1 with (fail)
  repeat (go_quiet (fail); go_upto_region 1 with (fail))
  go_cut [50] (fun v50 wc => ∃ (kq : Nat) (x50_6 : Bool), v50 = .bool x50_6 ∧ Aside0 (impl_alike.j0 kq l0 a1 a2 l3 a4 x50_6 = some r) ∧ Aside0 (kq ≤ k) ∧ Drawn0 w wc)
  case first =>
    have H := HC7.out
    clear HC7
    by_cases c8 : a1 < 0
    · rw [if_pos c8] at H
      have c8b0 : decide (a1 < 0) = true := decide_eq_true c8
      clear c8
      (first | rw [c8b0] | (simp only [i64_w, i32_w]; rw [c8b0]) | skip)
      have H' := Aside0.mk H
      clear H
      go_wp2
      repeat (go_quiet (fail); try go_wp2)
      go_meet
      case rel => exact ⟨_, (true), (by first | rfl | (simp; done) | (simp [*]; done)), H', ⟨by first | omega | exact Nat.le_refl _⟩, by repeat (first | exact Drawn0.refl _ | apply Drawn0.step)⟩
    · rw [if_neg c8] at H
      have c8b0 : decide (a1 < 0) = false := decide_eq_false c8
      clear c8
      (first | rw [c8b0] | (simp only [i64_w, i32_w]; rw [c8b0]) | skip)
      by_cases c9 : a2 < a1
      · rw [if_pos c9] at H
        have c9b0 : decide (a2 < a1) = true := decide_eq_true c9
        clear c9
        have H' := Aside0.mk H
        clear H
        go_wp2
        repeat (go_quiet (fail); try go_wp2)
        go_meet
        case rel => exact ⟨_, (true), (by first | rfl | (simp; done) | (simp [*]; done)), H', ⟨by first | omega | exact Nat.le_refl _⟩, by repeat (first | exact Drawn0.refl _ | apply Drawn0.step)⟩
      · rw [if_neg c9] at H
        have c9b0 : decide (a2 < a1) = false := decide_eq_false c9
        clear c9
        by_cases c10 : (l0.length : Int) < a2
        · rw [if_pos c10] at H
          have c10b0 : decide ((l0.length : Int) < a2) = true := decide_eq_true c10
          clear c10
          have H' := Aside0.mk H
          clear H
          go_wp2
          repeat (go_quiet (fail); try go_wp2)
          go_meet
          case rel => exact ⟨_, (true), (by first | rfl | (simp; done) | (simp [*]; done)), H', ⟨by first | omega | exact Nat.le_refl _⟩, by repeat (first | exact Drawn0.refl _ | apply Drawn0.step)⟩
        · rw [if_neg c10] at H
          have c10b0 : decide ((l0.length : Int) < a2) = false := decide_eq_false c10
          clear c10
          by_cases c11 : a4 < 0
          · rw [if_pos c11] at H
            have c11b0 : decide (a4 < 0) = true := decide_eq_true c11
            clear c11
            have H' := Aside0.mk H
            clear H
            go_wp2
            repeat (go_quiet (fail); try go_wp2)
            go_meet
            case rel => exact ⟨_, (true), (by first | rfl | (simp; done) | (simp [*]; done)), H', ⟨by first | omega | exact Nat.le_refl _⟩, by repeat (first | exact Drawn0.refl _ | apply Drawn0.step)⟩
          · rw [if_neg c11] at H
            have c11b0 : decide (a4 < 0) = false := decide_eq_false c11
            clear c11
            by_cases c12 : a5 < a4
            · rw [if_pos c12] at H
              have c12b0 : decide (a5 < a4) = true := decide_eq_true c12
              clear c12
              have H' := Aside0.mk H
              clear H
              go_wp2
              repeat (go_quiet (fail); try go_wp2)
              go_meet
              case rel => exact ⟨_, (true), (by first | rfl | (simp; done) | (simp [*]; done)), H', ⟨by first | omega | exact Nat.le_refl _⟩, by repeat (first | exact Drawn0.refl _ | apply Drawn0.step)⟩
            · rw [if_neg c12] at H
              have c12b0 : decide (a5 < a4) = false := decide_eq_false c12
              clear c12
              by_cases c13 : (l3.length : Int) < a5
              · rw [if_pos c13] at H
                have c13b0 : decide ((l3.length : Int) < a5) = true := decide_eq_true c13
                clear c13
                have H' := Aside0.mk H
                clear H
                go_wp2
                repeat (go_quiet (fail); try go_wp2)
                go_meet
                case rel => exact ⟨_, (true), (by first | rfl | (simp; done) | (simp [*]; done)), H', ⟨by first | omega | exact Nat.le_refl _⟩, by repeat (first | exact Drawn0.refl _ | apply Drawn0.step)⟩
              · rw [if_neg c13] at H
                have c13b0 : decide ((l3.length : Int) < a5) = false := decide_eq_false c13
                clear c13
                have H' := Aside0.mk H
                clear H
                go_wp2
                repeat (go_quiet (fail); try go_wp2)
                go_meet
                case rel => exact ⟨_, (((wrap64 (a2 - a1)) != (wrap64 (a5 - a4)))), (by first | rfl | (simp; done) | (simp [*]; done)), H', ⟨by first | omega | exact Nat.le_refl _⟩, by repeat (first | exact Drawn0.refl _ | apply Drawn0.step)⟩
  case rest =>
    clear HC7
    try clear c1
    try clear p2
    try clear c3
    try clear p6
    try clear c8
    try clear c8b0
    try clear c9
    try clear c9b0
    try clear c10
    try clear c10b0
    try clear c11
    try clear c11b0
    try clear c12
    try clear c12b0
    try clear c13
    try clear c13b0
    obtain ⟨kq, x50_6, rfl, HA, HJ6, ⟨mc6, rfl⟩⟩ := hcut
    cases kq with
    | zero => exact absurd HA.out (by simp [impl_alike.j0])
    | succ kj6 =>
      have H := HA.out
      clear HA
      simp only [impl_alike.j0] at H
      by_cases c14 : x50_6 = true
      · subst c14
        have H1 : (some false) = some r := by rw [if_pos rfl] at H; exact H
        clear H
        have H := H1
        clear H1
        obtain rfl := Option.some.inj H
        go_wp2
        repeat (go_quiet (fail); try go_wp2)
        go_ret
        exact ⟨by first | rfl | (simp; done) | (simp [*]; done), by repeat (first | exact Drawn0.refl _ | apply Drawn0.step)⟩
      · replace c14 := Bool.eq_false_iff.mpr c14
        subst c14
        have H1 : (impl_alike.l0 kj6 l0 a1 l3 a4 (wrap64 (a2 - a1)) 0) = some r := by rw [if_neg (show ¬ (false = true) by decide)] at H; exact H
        clear H
        have H := H1
        clear H1
        have H' := Aside0.mk H
        clear H
        go_wp2
        repeat (go_quiet (fail); try go_wp2)
        go_loopg [54] kj6 (fun kq v54 w' => ∃ (x54_2 : Int), v54 = .int .i64 x54_2 ∧ Aside0 (impl_alike.l0 kq l0 a1 l3 a4 (wrap64 (a2 - a1)) x54_2 = some r) ∧ Aside0 (kq ≤ kj6) ∧ Drawn0 w w')
        case atStart => exact ⟨(0), (by first | rfl | (simp; done) | (simp [*]; done)), H', ⟨Nat.le_refl _⟩, by repeat (first | exact Drawn0.refl _ | apply Drawn0.step)⟩
        case round =>
          clear H'
          try clear c1
          try clear p2
          try clear c3
          try clear c6
          try clear p6
          try clear c8
          try clear c8b0
          try clear c9
          try clear c9b0
          try clear c10
          try clear c10b0
          try clear c11
          try clear c11b0
          try clear c12
          try clear c12b0
          try clear c13
          try clear c13b0
          try clear c14
          try clear p2
          try clear p6
          obtain ⟨x54_2, rfl, HA, HK2, ⟨m2, rfl⟩⟩ := hrel
          cases gk with
          | zero => exact absurd HA.out (by simp [impl_alike.l0])
          | succ k2 =>
            have H := HA.out
            clear HA
            simp only [impl_alike.l0] at H
            by_cases c15 : x54_2 < (wrap64 (a2 - a1))
            · rw [if_pos c15] at H
              have c15b0 : decide (x54_2 < (wrap64 (a2 - a1))) = true := decide_eq_true c15
              clear c15
              obtain ⟨ji16, hji16⟩ : ∃ j_ : Int, (wrap64 (a1 + x54_2)) = j_ := ⟨_, rfl⟩
              replace H : (if 0 ≤ (ji16) then (if (ji16) < (l0.length : Int) then (if 0 ≤ (wrap64 (a4 + x54_2)) then (if (wrap64 (a4 + x54_2)) < (l3.length : Int) then (if (((rd_T25 l0 (ji16)).f0) != ((rd_T25 l3 (wrap64 (a4 + x54_2))).f0)) = true then (some false) else (impl_alike.l0 k2 l0 a1 l3 a4 (wrap64 (a2 - a1)) (wrap64 (x54_2 + 1)))) else (none)) else (none)) else (none)) else (none)) = some r := by first | (rw [hji16] at H; exact H) | (simp only [hji16] at H ⊢; exact H)
              have hji16w : (IntKind.i64.wrap (a1 + x54_2)) = ji16 := (i64_w _).trans hji16
              by_cases c17 : 0 ≤ (ji16)
              · rw [if_pos c17] at H
                have c17b0 : decide (0 ≤ (ji16)) = true := decide_eq_true c17
                clear c17
                by_cases c18 : (ji16) < (l0.length : Int)
                · rw [if_pos c18] at H
                  have c18b0 : decide ((ji16) < (l0.length : Int)) = true := decide_eq_true c18
                  clear c18
                  obtain ⟨ji19, hji19⟩ : ∃ j_ : Int, (wrap64 (a4 + x54_2)) = j_ := ⟨_, rfl⟩
                  replace H : (if 0 ≤ (ji19) then (if (ji19) < (l3.length : Int) then (if (((rd_T25 l0 (ji16)).f0) != ((rd_T25 l3 (ji19)).f0)) = true then (some false) else (impl_alike.l0 k2 l0 a1 l3 a4 (wrap64 (a2 - a1)) (wrap64 (x54_2 + 1)))) else (none)) else (none)) = some r := by first | (rw [hji19] at H; exact H) | (simp only [hji19] at H ⊢; exact H)
                  have hji19w : (IntKind.i64.wrap (a4 + x54_2)) = ji19 := (i64_w _).trans hji19
                  by_cases c20 : 0 ≤ (ji19)
                  · rw [if_pos c20] at H
                    have c20b0 : decide (0 ≤ (ji19)) = true := decide_eq_true c20
                    clear c20
                    by_cases c21 : (ji19) < (l3.length : Int)
                    · rw [if_pos c21] at H
                      have c21b0 : decide ((ji19) < (l3.length : Int)) = true := decide_eq_true c21
                      clear c21
                      by_cases c22 : (((rd_T25 l0 (ji16)).f0) != ((rd_T25 l3 (ji19)).f0)) = true
                      · rw [if_pos c22] at H
                        have c22b0 : (((rd_T25 l0 (ji16)).f0) != ((rd_T25 l3 (ji19)).f0)) = true := c22
                        (try (have c22b1 : decide (((rd_T25 l0 (ji16)).f0) = ((rd_T25 l3 (ji19)).f0)) = false := by simpa using c22))
                        (try (have c22b2 : (((rd_T25 l0 (ji16)).f0) == ((rd_T25 l3 (ji19)).f0)) = false := by simpa using c22))
                        (try (have c22b3 : ¬ (((rd_T25 l0 (ji16)).f0) = ((rd_T25 l3 (ji19)).f0)) := by simpa using c22))
                        clear c22
                        obtain rfl := Option.some.inj H
                        have p101 : 0 ≤ ((ji16) : Int) := of_decide_eq_true (by first | (with_reducible assumption) | assumption)
                        have q101 : (ji16) < (l0.length : Int) := of_decide_eq_true (by first | (with_reducible assumption) | assumption)
                        obtain ⟨ad101, A101_3, c101_3, e101, hx101_0, hx101_1, hx101_2, hx101_3, hl101_3, hi101_3⟩ := at_T25 HR0.out (ji16) p101 q101
                        cases e101
                        have HR101_3 := Aside0.mk hi101_3
                        have HC101_3 := Aside0.mk hl101_3
                        clear hi101_3 hl101_3
                        replace p101 := eq_true p101
                        replace q101 := eq_true q101
                        have p102 : 0 ≤ ((ji19) : Int) := of_decide_eq_true (by first | (with_reducible assumption) | assumption)
                        have q102 : (ji19) < (l3.length : Int) := of_decide_eq_true (by first | (with_reducible assumption) | assumption)
                        obtain ⟨ad102, A102_3, c102_3, e102, hx102_0, hx102_1, hx102_2, hx102_3, hl102_3, hi102_3⟩ := at_T25 HR3.out (ji19) p102 q102
                        cases e102
                        have HR102_3 := Aside0.mk hi102_3
                        have HC102_3 := Aside0.mk hl102_3
                        clear hi102_3 hl102_3
                        replace p102 := eq_true p102
                        replace q102 := eq_true q102
                        go_wp2
                        repeat (go_quiet (fail); try go_wp2)
                        go_ret
                        exact ⟨by first | rfl | (simp; done) | (simp only [← hji16, ← hji19] <;> (first | rfl | simp)) | (simp [*]; done), by repeat (first | exact Drawn0.refl _ | apply Drawn0.step)⟩
                      · rw [if_neg c22] at H
                        have c22b0 : (((rd_T25 l0 (ji16)).f0) != ((rd_T25 l3 (ji19)).f0)) = false := by simpa using c22
                        (try (have c22b1 : decide (((rd_T25 l0 (ji16)).f0) = ((rd_T25 l3 (ji19)).f0)) = true := by simpa using c22))
                        (try (have c22b2 : (((rd_T25 l0 (ji16)).f0) == ((rd_T25 l3 (ji19)).f0)) = true := by simpa using c22))
                        clear c22
                        have H' := Aside0.mk H
                        clear H
                        have p101 : 0 ≤ ((ji16) : Int) := of_decide_eq_true (by first | (with_reducible assumption) | assumption)
                        have q101 : (ji16) < (l0.length : Int) := of_decide_eq_true (by first | (with_reducible assumption) | assumption)
                        obtain ⟨ad101, A101_3, c101_3, e101, hx101_0, hx101_1, hx101_2, hx101_3, hl101_3, hi101_3⟩ := at_T25 HR0.out (ji16) p101 q101
                        cases e101
                        have HR101_3 := Aside0.mk hi101_3
                        have HC101_3 := Aside0.mk hl101_3
                        clear hi101_3 hl101_3
                        replace p101 := eq_true p101
                        replace q101 := eq_true q101
                        have p102 : 0 ≤ ((ji19) : Int) := of_decide_eq_true (by first | (with_reducible assumption) | assumption)
                        have q102 : (ji19) < (l3.length : Int) := of_decide_eq_true (by first | (with_reducible assumption) | assumption)
                        obtain ⟨ad102, A102_3, c102_3, e102, hx102_0, hx102_1, hx102_2, hx102_3, hl102_3, hi102_3⟩ := at_T25 HR3.out (ji19) p102 q102
                        cases e102
                        have HR102_3 := Aside0.mk hi102_3
                        have HC102_3 := Aside0.mk hl102_3
                        clear hi102_3 hl102_3
                        replace p102 := eq_true p102
                        replace q102 := eq_true q102
                        go_wp2
                        repeat (go_quiet (fail); try go_wp2)
                        go_roundg k2
                        case measure => have := HJ6.out; have := HK2.out; omega
                        case rel => exact ⟨(wrap64 (x54_2 + 1)), (by first | rfl | (simp; done) | (simp [*]; done)), H', ⟨by have := HJ6.out; have := HK2.out; omega⟩, by repeat (first | exact Drawn0.refl _ | apply Drawn0.step)⟩
                    · rw [if_neg c21] at H
                      exact absurd H (by simp)
                  · rw [if_neg c20] at H
                    exact absurd H (by simp)
                · rw [if_neg c18] at H
                  exact absurd H (by simp)
              · rw [if_neg c17] at H
                exact absurd H (by simp)
            · rw [if_neg c15] at H
              have c15b0 : decide (x54_2 < (wrap64 (a2 - a1))) = false := decide_eq_false c15
              clear c15
              obtain rfl := Option.some.inj H
              go_wp2
              repeat (go_quiet (fail); try go_wp2)
              go_ret
              exact ⟨by first | rfl | (simp; done) | (simp [*]; done), by repeat (first | exact Drawn0.refl _ | apply Drawn0.step)⟩

/-! ### bytes_Equal: function 30 -/
def bytes_Equal.f (l0 : List Int) (l1 : List Int) : Option (Bool) := some ((strOfNums l0).toList == (strOfNums l1).toList)
set_option maxHeartbeats 8000000 in
set_option maxRecDepth 100000 in
theorem bytes_Equal.calls (A0 : Option Addr) (c0 : Nat) (l0 : List Int) (A1 : Option Addr) (c1 : Nat) (l1 : List Int) (r : Bool) (w : World) (hr0 : Kd.C (Kd.int .u8) w A0 l0.length l0) (hc0 : l0.length ≤ c0) (hr1 : Kd.C (Kd.int .u8) w A1 l1.length l1) (hc1 : l1.length ≤ c1) (h : bytes_Equal.f l0 l1 = some r) :
    Calls Tryz.prog 30 #[.slice A0 l0.length c0, .slice A1 l1.length c1] w fun e w' => e = .returned (.bool r) ∧ Drawn0 w w' := by
  have HR0 := Aside0.mk hr0
  have HC0 := Aside0.mk hc0
  clear hr0 hc0
  have HR1 := Aside0.mk hr1
  have HC1 := Aside0.mk hc1
  clear hr1 hc1
  have H : (some ((strOfNums l0).toList == (strOfNums l1).toList)) = some r := h
  clear h
  obtain rfl := Option.some.inj H
  have hcv3 := Kd.C_string (P := Tryz.prog) (A := A0) (c := c0) Tryz.underlying58 Tryz.underlying5 Tryz.underlying9 HR0.out
  have hcv4 := Kd.C_string (P := Tryz.prog) (A := A1) (c := c1) Tryz.underlying58 Tryz.underlying5 Tryz.underlying9 HR1.out
  go_enter Tryz.func30, Tryz.ntmps30
  go_wp2
  go_ret
  exact ⟨by first | rfl | (simp; done) | (simp [*]; done), by repeat (first | exact Drawn0.refl _ | apply Drawn0.step)⟩

/-! ### memory_memory_memset_go: function 79 -/
def memory_memory_memset_go.l0 : Nat → List Int → Int → Int → Option (List Int)
  | 0, _, _, _ => none
  | k + 1, x0, x1, x4 => if x4 < (x0.length : Int) then (if 0 ≤ x4 then (memory_memory_memset_go.l0 k (x0.set (x4 : Int).toNat x1) x1 (wrap64 (x4 + 1))) else (none)) else (some x0)
def memory_memory_memset_go.f (k : Nat) (l0 : List Int) (a1 : Int) : Option (List Int) := memory_memory_memset_go.l0 k l0 a1 0
theorem memory_memory_memset_go.mono_l : ∀ k, (∀ y0 y1 y2, LeO (memory_memory_memset_go.l0 k y0 y1 y2) (memory_memory_memset_go.l0 (k + 1) y0 y1 y2))
  | 0 => fun _ _ _ r h => by simp [memory_memory_memset_go.l0] at h
  | k + 1 => by
    have ih0 := memory_memory_memset_go.mono_l k
    · intro y0 y1 y2
      unfold memory_memory_memset_go.l0
      repeat' first
      | (with_reducible exact ih0 _ _ _)
      | (with_reducible exact LeO.refl _)
      | (with_reducible exact LeO.none _)
      | (with_reducible refine LeO.ite ?_ ?_)
      | (with_reducible refine LeO.bind ?_ (fun _ => ?_))
      | exact ih0 _ _ _
      | exact LeO.none _
      | refine LeO.ite ?_ ?_
      | refine LeO.bind ?_ (fun _ => ?_)
theorem memory_memory_memset_go.mono : ∀ a0 a1 k, LeO (memory_memory_memset_go.f k a0 a1) (memory_memory_memset_go.f (k + 1) a0 a1) := by
  intro a0 a1 k
  have ih0 := memory_memory_memset_go.mono_l k
  unfold memory_memory_memset_go.f
  repeat' first
      | (with_reducible exact ih0 _ _ _)
      | (with_reducible exact LeO.refl _)
      | (with_reducible exact LeO.none _)
      | (with_reducible refine LeO.ite ?_ ?_)
      | (with_reducible refine LeO.bind ?_ (fun _ => ?_))
      | exact ih0 _ _ _
      | exact LeO.none _
      | refine LeO.ite ?_ ?_
      | refine LeO.bind ?_ (fun _ => ?_)
set_option maxHeartbeats 8000000 in
set_option maxRecDepth 100000 in
theorem memory_memory_memset_go.calls (k : Nat) (P0_ : Nat → Prop) (u9000_ : Value) (l0 : List Int) (a1 : Int) (r : List Int) (w0 w : World) (hB : Below w0.heap.size w0 w) (ho0 : Kd.R (Kd.int .u8) 5 w w0.heap.size P0_ u9000_ l0) (h : memory_memory_memset_go.f k l0 a1 = some r) :
    Calls Tryz.prog 79 #[u9000_, .int .u8 a1] w fun e w' => e = .returned (.tuple #[]) ∧ Kd.R (Kd.int .u8) 5 w' w0.heap.size (fun k_ => (P0_ k_ ∨ w.heap.size ≤ k_)) u9000_ r ∧ Below w0.heap.size w0 w' ∧ Kept w w' (fun k_ => P0_ k_) := by
  have HO0 := Aside0.mk (show Kd.R (Kd.int .u8) 5 w w0.heap.size (fun k_ => (P0_ k_ ∨ w.heap.size ≤ k_)) u9000_ l0 from Kd.R_mono ho0 (fun k_ hk => (.inl hk)))
  have HK := Aside0.mk (Kept.refl w (fun k_ => P0_ k_))
  have HW0 := Aside0.mk hB.size
  have HB := Aside0.mk hB
  clear hB
  have H : (memory_memory_memset_go.l0 k l0 a1 0) = some r := h
  clear h
  have H' := Aside0.mk H
  clear H
  go_enter Tryz.func79, Tryz.ntmps79
  go_wp2
  go_loopg [4] k (fun kq v4 w' => ∃ (x0_1 : List Int) (x4_1 : Int), v4 = .int .i64 x4_1 ∧ Aside0 (memory_memory_memset_go.l0 kq x0_1 a1 x4_1 = some r) ∧ Aside0 (kq ≤ k) ∧ Aside0 (Kd.R (Kd.int .u8) 5 w' w0.heap.size (fun k_ => (P0_ k_ ∨ w.heap.size ≤ k_)) u9000_ x0_1) ∧ Aside0 (Kept w w' (fun k_ => P0_ k_)) ∧ Aside0 (Below w0.heap.size w0 w'))
  case atStart => exact ⟨(l0), (0), (by first | rfl | (simp; done) | (simp [*]; done)), H', ⟨Nat.le_refl _⟩, ⟨by (with_reducible repeat (first | apply Kd.R_alloc | apply Kd.R_drewN | apply Kd.R_drew)); exact HO0.out⟩, ⟨by repeat (first | (with_reducible first | exact HK.out | apply Kept.alloc | apply Kept.drewN | apply Kept.drew) | exact HK.out)⟩, ⟨by repeat (first | (with_reducible first | exact HB.out | apply below_alloc | apply pw_below_drewN | apply below_drew1) | exact HB.out)⟩⟩
  case round =>
    clear H'
    try clear p2
    obtain ⟨x0_1, x4_1, rfl, HA, HK1, HO_0, HK, HB⟩ := hrel
    cases gk with
    | zero => exact absurd HA.out (by simp [memory_memory_memset_go.l0])
    | succ k1 =>
      have H := HA.out
      clear HA
      simp only [memory_memory_memset_go.l0] at H
      by_cases c3 : x4_1 < (x0_1.length : Int)
      · rw [if_pos c3] at H
        have c3b0 : decide (x4_1 < (x0_1.length : Int)) = true := decide_eq_true c3
        clear c3
        by_cases c4 : 0 ≤ x4_1
        · rw [if_pos c4] at H
          have c4b0 : decide (0 ≤ x4_1) = true := decide_eq_true c4
          clear c4
          obtain ⟨y103, hy103⟩ : ∃ y_ : List Int, y_ = (x0_1.set (x4_1 : Int).toNat a1) := ⟨_, rfl⟩
          replace H : (memory_memory_memset_go.l0 k1 y103 a1 (wrap64 (x4_1 + 1))) = some r := by first | (rw [hy103]; with_reducible exact H) | (have H2_ := (Option.bind_some _ _).symm.trans H; rw [hy103]; with_reducible exact H2_) | (have H2_ := (Option.bind_some _ _).symm.trans H; with_reducible exact H2_) | with_reducible exact H | (rw [hy103]; exact H) | exact H
          have Ny103 := Aside0.mk hy103
          clear hy103
          have H' := Aside0.mk H
          clear H
          obtain ⟨Ao6, co6, eo6⟩ := Kd.R_slice HO_0.out
          subst eo6
          have p5 : 0 ≤ (x4_1 : Int) := of_decide_eq_true (by first | (with_reducible assumption) | assumption)
          have q5 : (x4_1 : Int) < ((x0_1.length : Int) : Int) := of_decide_eq_true (by first | (with_reducible assumption) | assumption)
          obtain ⟨go5, co5, eo5, gb5, gl5, cl5, HG5⟩ := Kd.R_form HO_0.out (by omega)
          (first | cases eo5 | (injection eo5 with ea_ en_ ec_; (first | subst ea_ | (injection ea_ with ea_; subst ea_)); subst ec_; clear en_))
          have GB5 := Aside0.mk gb5
          have GG5 := Aside0.mk HG5
          clear gb5 gl5 HG5
          have HMgo5 := Aside0.mk (show (P0_ go5 ∨ w.heap.size ≤ go5) from (HO_0.out.1 _ rfl))
          obtain ⟨hx5_0, hf5_0⟩ := Kd.R_celln 0 HO_0.out (x4_1 : Int) p5 q5
          replace p5 := eq_true p5
          replace q5 := eq_true q5
          have HP7 := Kd.R_putg HO_0.out (x4_1 : Int) a1
          go_wp2_with (first | ((with_reducible refine gate_store (t := 5) (p := 14) rfl ?_); refine store_event (t := 5) (p := 14) (v := ?vo_w8) (w1 := (wr.setCell ⟨go5, (x4_1 : Int).toNat, none⟩ (.int .u8 a1))) ?hg ?ho ?hn ?hr ?_; (case ho => rfl); (case hg => rfl); (case hn => rfl); (case hr => first | (go_simp; done) | (go_simp; rfl)); intro w8 hw; have hg : wr.grownBy w8 (some go5) := (by rw [hw]; exact HP7.2); have hp_ : Kd.R (Kd.int .u8) 5 w8 w0.heap.size (fun k_ => (P0_ k_ ∨ w.heap.size ≤ k_)) (.slice (some ⟨go5, 0, none⟩) x0_1.length co6) y103 := (by rw [hw, Ny103.out]; exact HP7.1); clear HP7; have n0_ := Aside0.mk (hp_); have n1_ := Aside0.mk ((by rw [hw]; exact below_set (HB.out) GB5.out : Below w0.heap.size w0 w8)); have n2_ := Aside0.mk (Kept.of_grown (S := (fun k_ => P0_ k_)) hg (by repeat (first | (with_reducible first | exact HK.out | apply Kept.alloc | apply Kept.drewN | apply Kept.drew) | exact HK.out)) (fun k_ e_ => (HO_0.out.1 k_ e_))); clear HO_0; clear HB; clear HK; have HO_0 := n0_; have HB := n1_; have HK := n2_; clear n0_ n1_ n2_; clear hg hw hp_))
          go_roundg k1
          case measure => have := HK1.out; omega
          case rel => exact ⟨(y103), (wrap64 (x4_1 + 1)), (by first | rfl | (simp; done) | (simp [*]; done)), H', ⟨by have := HK1.out; omega⟩, ⟨by (with_reducible repeat (first | apply Kd.R_alloc | apply Kd.R_drewN | apply Kd.R_drew)); exact HO_0.out⟩, ⟨by repeat (first | (with_reducible first | exact HK.out | apply Kept.alloc | apply Kept.drewN | apply Kept.drew) | exact HK.out)⟩, ⟨by repeat (first | (with_reducible first | exact HB.out | apply below_alloc | apply pw_below_drewN | apply below_drew1) | exact HB.out)⟩⟩
        · rw [if_neg c4] at H
          exact absurd H (by simp)
      · rw [if_neg c3] at H
        have c3b0 : decide (x4_1 < (x0_1.length : Int)) = false := decide_eq_false c3
        clear c3
        obtain rfl := Option.some.inj H
        obtain ⟨Ao9, co9, eo9⟩ := Kd.R_slice HO_0.out
        subst eo9
        go_wp2
        first | go_end0 | ((try simp only [Exit.inBlock, Exit.then]); refine bodyPost_ret (results_none rfl _ _ _) rfl ?_)
        exact ⟨by first | rfl | (simp [errW_none, errW_some] <;> rfl) | (simp [*, errW_none, errW_some] <;> rfl), by (with_reducible repeat (first | apply Kd.R_alloc | apply Kd.R_drewN | apply Kd.R_drew)); exact HO_0.out, by repeat (first | (with_reducible first | exact HB.out | apply below_alloc | apply pw_below_drewN | apply below_drew1) | exact HB.out), by repeat (first | (with_reducible first | exact HK.out | apply Kept.alloc | apply Kept.drewN | apply Kept.drew) | exact HK.out)⟩

/-! ### memory_Set: function 56 -/
def memory_Set.f (k : Nat) (l0 : List Int) (a1 : Int) : Option (List Int) := (memory_memory_memset_go.f k l0 a1).bind fun t104 => (some t104)
theorem memory_Set.mono : ∀ a0 a1 k, LeO (memory_Set.f k a0 a1) (memory_Set.f (k + 1) a0 a1) := by
  intro a0 a1 k
  unfold memory_Set.f
  repeat' first
      | (with_reducible exact memory_memory_memset_go.mono _ _ _)
      | (with_reducible exact LeO.refl _)
      | (with_reducible exact LeO.none _)
      | (with_reducible refine LeO.ite ?_ ?_)
      | (with_reducible refine LeO.bind ?_ (fun _ => ?_))
      | exact memory_memory_memset_go.mono _ _ _
      | exact LeO.none _
      | refine LeO.ite ?_ ?_
      | refine LeO.bind ?_ (fun _ => ?_)
set_option maxHeartbeats 8000000 in
set_option maxRecDepth 100000 in
theorem memory_Set.calls (k : Nat) (P0_ : Nat → Prop) (u9000_ : Value) (l0 : List Int) (a1 : Int) (r : List Int) (w0 w : World) (hB : Below w0.heap.size w0 w) (ho0 : Kd.R (Kd.int .u8) 5 w w0.heap.size P0_ u9000_ l0) (h : memory_Set.f k l0 a1 = some r) :
    Calls Tryz.prog 56 #[u9000_, .int .u8 a1] w fun e w' => e = .returned (.tuple #[]) ∧ Kd.R (Kd.int .u8) 5 w' w0.heap.size (fun k_ => (P0_ k_ ∨ w.heap.size ≤ k_)) u9000_ r ∧ Below w0.heap.size w0 w' ∧ Kept w w' (fun k_ => P0_ k_) := by
  have HO0 := Aside0.mk (show Kd.R (Kd.int .u8) 5 w w0.heap.size (fun k_ => (P0_ k_ ∨ w.heap.size ≤ k_)) u9000_ l0 from Kd.R_mono ho0 (fun k_ hk => (.inl hk)))
  have HK := Aside0.mk (Kept.refl w (fun k_ => P0_ k_))
  have HW0 := Aside0.mk hB.size
  have HB := Aside0.mk hB
  clear hB
  have H : ((memory_memory_memset_go.f k l0 a1).bind fun t104 => (some t104)) = some r := h
  clear h
  replace H := Option.bind_eq_some_iff.mp H
  obtain ⟨t104, A30, H⟩ := H
  replace H : (some t104) = some r := H
  have A3 := Aside0.mk A30
  clear A30
  obtain rfl := Option.some.inj H
  obtain ⟨Ao4, co4, eo4⟩ := Kd.R_slice HO0.out
  subst eo4
  go_enter Tryz.func56, Tryz.ntmps56
  go_wp2_with (first | ((with_reducible refine gate_callee (f := 79) rfl ?_); refine goesL_ (some 6) rfl rfl Tryz.func79 (by kernel_rfl) rfl #[.slice Ao4 l0.length co4, .int .u8 a1] rfl (by (try simp only [List.map_toArray, List.map_cons, List.map_nil]); first | done | rfl | (simp only [List.length_drop, List.length_take]; rfl)) ?_; (with_reducible refine (memory_memory_memset_go.calls k (fun k_ => some k_ = (.slice Ao4 l0.length co4 : Value).ownBlock) (.slice Ao4 l0.length co4) l0 a1 t104 w0 _ ?side1 ?side2 A3.out).mono ?_); (case side1 => repeat (first | (with_reducible first | exact HB.out | apply below_alloc | apply pw_below_drewN | apply below_drew1) | exact HB.out)); (case side2 => exact Kd.R_tight rfl HO0.out); rintro e w5 ⟨rfl, hy0, hb, hkp⟩; refine ⟨_, rfl, ?_⟩; have n0_ := Aside0.mk (Kd.R_reok rfl hy0 (fun k_ e_ => HO0.out.1 k_ e_)); have n1_ := Aside0.mk (Kept.then_ (S := (fun k_ => P0_ k_)) (by repeat (first | (with_reducible first | exact HK.out | apply Kept.alloc | apply Kept.drewN | apply Kept.drew) | exact HK.out)) hkp (fun k_ hs_ => (fun e_ => (HO0.out.1 k_ e_.symm)) hs_)); have n2_ := Aside0.mk (hb); clear HO0; clear HK; clear HB; have HO0 := n0_; have HK := n1_; have HB := n2_; clear n0_ n1_ n2_; (try clear hb); (try clear hkp); (try clear hy0)))
  first | go_end0 | ((try simp only [Exit.inBlock, Exit.then]); refine bodyPost_ret (results_none rfl _ _ _) rfl ?_)
  exact ⟨by first | rfl | (simp [errW_none, errW_some] <;> rfl) | (simp [*, errW_none, errW_some] <;> rfl), by (with_reducible repeat (first | apply Kd.R_alloc | apply Kd.R_drewN | apply Kd.R_drew)); exact HO0.out, by repeat (first | (with_reducible first | exact HB.out | apply below_alloc | apply pw_below_drewN | apply below_drew1) | exact HB.out), by repeat (first | (with_reducible first | exact HK.out | apply Kept.alloc | apply Kept.drewN | apply Kept.drew) | exact HK.out)⟩

/-! ### bitutil_CeilByte: function 86 -/
def bitutil_CeilByte.f (a0 : Int) : Option (Int) := some (Go.bits .andNot .i64 (wrap64 (a0 + 7)) 7)
set_option maxHeartbeats 8000000 in
set_option maxRecDepth 100000 in
theorem bitutil_CeilByte.calls (a0 : Int) (r : Int) (w : World) (h : bitutil_CeilByte.f a0 = some r) :
    Calls Tryz.prog 86 #[.int .i64 a0] w fun e w' => e = .returned (.int .i64 r) ∧ Drawn0 w w' := by
  have H : (some (Go.bits .andNot .i64 (wrap64 (a0 + 7)) 7)) = some r := h
  clear h
  obtain rfl := Option.some.inj H
  go_enter Tryz.func86, Tryz.ntmps86
  go_wp2
  go_ret
  exact ⟨by first | rfl | (simp; done) | (simp [*]; done), by repeat (first | exact Drawn0.refl _ | apply Drawn0.step)⟩

/-! ### memory_roundToPowerOf2: function 106 -/
def memory_roundToPowerOf2.f (a0 : Int) (a1 : Int) : Option (Int) := some (Go.bits .and .i64 (wrap64 (a0 + (wrap64 (a1 - 1)))) (Go.bits .xor .i64 (-1) (wrap64 (a1 - 1))))
set_option maxHeartbeats 8000000 in
set_option maxRecDepth 100000 in
theorem memory_roundToPowerOf2.calls (a0 : Int) (a1 : Int) (r : Int) (w : World) (h : memory_roundToPowerOf2.f a0 a1 = some r) :
    Calls Tryz.prog 106 #[.int .i64 a0, .int .i64 a1] w fun e w' => e = .returned (.int .i64 r) ∧ Drawn0 w w' := by
  have H : (some (Go.bits .and .i64 (wrap64 (a0 + (wrap64 (a1 - 1)))) (Go.bits .xor .i64 (-1) (wrap64 (a1 - 1))))) = some r := h
  clear h
  obtain rfl := Option.some.inj H
  go_enter Tryz.func106, Tryz.ntmps106
  go_wp2
  go_ret
  exact ⟨by first | rfl | (simp; done) | (simp [*]; done), by repeat (first | exact Drawn0.refl _ | apply Drawn0.step)⟩

/-! ### memory_roundUpToMultipleOf64: function 100 -/
def memory_roundUpToMultipleOf64.f (a0 : Int) : Option (Int) := (memory_roundToPowerOf2.f a0 64).bind fun t105 => (some t105)
set_option maxHeartbeats 8000000 in
set_option maxRecDepth 100000 in
theorem memory_roundUpToMultipleOf64.calls (a0 : Int) (r : Int) (w : World) (h : memory_roundUpToMultipleOf64.f a0 = some r) :
    Calls Tryz.prog 100 #[.int .i64 a0] w fun e w' => e = .returned (.int .i64 r) ∧ Drawn0 w w' := by
  have H : ((memory_roundToPowerOf2.f a0 64).bind fun t105 => (some t105)) = some r := h
  clear h
  replace H := Option.bind_eq_some_iff.mp H
  obtain ⟨t105, A20, H⟩ := H
  replace H : (some t105) = some r := H
  have A2 := Aside0.mk A20
  clear A20
  obtain rfl := Option.some.inj H
  go_enter Tryz.func100, Tryz.ntmps100
  go_wp2_with (first | ((with_reducible refine gate_callee (f := 106) rfl ?_); refine goesL_ (some 4) rfl rfl Tryz.func106 (by kernel_rfl) rfl #[.int .i64 a0, .int .i64 64] rfl (by (try simp only [List.map_toArray, List.map_cons, List.map_nil]); first | done | rfl | (simp only [List.length_drop, List.length_take]; rfl)) ?_; (with_reducible refine (memory_roundToPowerOf2.calls a0 64 t105 _ A2.out).mono ?_); rintro e w' ⟨rfl, ⟨nd, rfl⟩⟩; refine ⟨_, rfl, ?_⟩))
  go_ret
  exact ⟨by first | rfl | (simp; done) | (simp [*]; done), by repeat (first | exact Drawn0.refl _ | apply Drawn0.step)⟩

/-! ### spec_OneBits: function 43 -/
def spec_OneBits.j0 : Nat → Int → Bool → Int → Int → Bool → Int → Int → Int → ByteArray → Bool → List Int → List Int → Option (Int × Bool)
  | 0, _, _, _, _, _, _, _, _, _, _, _, _ => none
  | k + 1, x5, x29, x110000, x110001, x110002, x110003, x110004, x110005, x110006, x110007, x110008, x110009 => if x29 = true then (some (64, true)) else (if x5 = 11 then ((some (([32, 64, 0] : List Int) : List Int)).bind fun y110 => (if 0 ≤ x110003 then (if x110003 < (y110.length : Int) then (some (rd y110 x110003, true)) else (none)) else (none))) else (some (0, false)))
def spec_OneBits.f (k : Nat) (a0_0 : Int) (a0_1 : Int) (a0_2 : Bool) (a0_3 : Int) (a0_4 : Int) (a0_5 : Int) (a0_6 : ByteArray) (a0_7 : Bool) (l0_8 : List Int) (l0_9 : List Int) : Option (Int × Bool) := if a0_0 = 2 then (some (a0_1, a0_2)) else (if a0_0 = 3 then (some (a0_1, false)) else (if a0_0 = 6 then (some (1, false)) else (if a0_0 = 8 then (some (wrap64 (32 + (wrap64 (32 * a0_3))), true)) else (if a0_0 = 9 then (if a0_3 < 2 then (some (32, true)) else (some (64, true))) else (if a0_0 = 10 then (spec_OneBits.j0 k a0_0 (a0_0 == 10) a0_0 a0_1 a0_2 a0_3 a0_4 a0_5 a0_6 a0_7 l0_8 l0_9) else (spec_OneBits.j0 k a0_0 (a0_0 == 18) a0_0 a0_1 a0_2 a0_3 a0_4 a0_5 a0_6 a0_7 l0_8 l0_9))))))
theorem spec_OneBits.mono_l : ∀ k, (∀ y0 y1 y2 y3 y4 y5 y6 y7 y8 y9 y10 y11, LeO (spec_OneBits.j0 k y0 y1 y2 y3 y4 y5 y6 y7 y8 y9 y10 y11) (spec_OneBits.j0 (k + 1) y0 y1 y2 y3 y4 y5 y6 y7 y8 y9 y10 y11))
  | 0 => fun _ _ _ _ _ _ _ _ _ _ _ _ r h => by simp [spec_OneBits.j0] at h
  | k + 1 => by
    have ih0 := spec_OneBits.mono_l k
    · intro y0 y1 y2 y3 y4 y5 y6 y7 y8 y9 y10 y11
      unfold spec_OneBits.j0
      repeat' first
      | (with_reducible exact ih0 _ _ _ _ _ _ _ _ _ _ _ _)
      | (with_reducible exact LeO.refl _)
      | (with_reducible exact LeO.none _)
      | (with_reducible refine LeO.ite ?_ ?_)
      | (with_reducible refine LeO.bind ?_ (fun _ => ?_))
      | exact ih0 _ _ _ _ _ _ _ _ _ _ _ _
      | exact LeO.none _
      | refine LeO.ite ?_ ?_
      | refine LeO.bind ?_ (fun _ => ?_)
theorem spec_OneBits.mono : ∀ a0 a1 a2 a3 a4 a5 a6 a7 a8 a9 k, LeO (spec_OneBits.f k a0 a1 a2 a3 a4 a5 a6 a7 a8 a9) (spec_OneBits.f (k + 1) a0 a1 a2 a3 a4 a5 a6 a7 a8 a9) := by
  intro a0 a1 a2 a3 a4 a5 a6 a7 a8 a9 k
  have ih0 := spec_OneBits.mono_l k
  unfold spec_OneBits.f
  repeat' first
      | (with_reducible exact ih0 _ _ _ _ _ _ _ _ _ _ _ _)
      | (with_reducible exact LeO.refl _)
      | (with_reducible exact LeO.none _)
      | (with_reducible refine LeO.ite ?_ ?_)
      | (with_reducible refine LeO.bind ?_ (fun _ => ?_))
      | exact ih0 _ _ _ _ _ _ _ _ _ _ _ _
      | exact LeO.none _
      | refine LeO.ite ?_ ?_
      | refine LeO.bind ?_ (fun _ => ?_)
set_option maxHeartbeats 8000000 in
set_option maxRecDepth 100000 in
theorem spec_OneBits.calls (k : Nat) (a0_0 : Int) (a0_1 : Int) (a0_2 : Bool) (a0_3 : Int) (a0_4 : Int) (a0_5 : Int) (a0_6 : ByteArray) (a0_7 : Bool) (A0_8 : Option Addr) (c0_8 : Nat) (l0_8 : List Int) (A0_9 : Option Addr) (c0_9 : Nat) (l0_9 : List Int) (r1 : Int) (r2 : Bool) (w : World) (hr0_8 : Kd.C (Kd.int .i64) w A0_8 l0_8.length l0_8) (hc0_8 : l0_8.length ≤ c0_8) (hr0_9 : Kd.C (Kd.int .i64) w A0_9 l0_9.length l0_9) (hc0_9 : l0_9.length ≤ c0_9) (h : spec_OneBits.f k a0_0 a0_1 a0_2 a0_3 a0_4 a0_5 a0_6 a0_7 l0_8 l0_9 = some (r1, r2)) :
    Calls Tryz.prog 43 #[.agg #[.int .i64 a0_0, .int .i64 a0_1, .bool a0_2, .int .i64 a0_3, .int .i64 a0_4, .int .i64 a0_5, .string a0_6, .bool a0_7, .slice A0_8 l0_8.length c0_8, .slice A0_9 l0_9.length c0_9]] w fun e w' => e = .returned (.tuple #[.int .i64 r1, .bool r2]) ∧ Below w.heap.size w w' := by
  have hu32 := Tryz.underlying32
  have HR0_8 := Aside0.mk hr0_8
  have HC0_8 := Aside0.mk hc0_8
  clear hr0_8 hc0_8
  have HR0_9 := Aside0.mk hr0_9
  have HC0_9 := Aside0.mk hc0_9
  clear hr0_9 hc0_9
  have HB := Aside0.mk (Below.refl w.heap.size w)
  have H : (if a0_0 = 2 then (some (a0_1, a0_2)) else (if a0_0 = 3 then (some (a0_1, false)) else (if a0_0 = 6 then (some (1, false)) else (if a0_0 = 8 then (some (wrap64 (32 + (wrap64 (32 * a0_3))), true)) else (if a0_0 = 9 then (if a0_3 < 2 then (some (32, true)) else (some (64, true))) else (if a0_0 = 10 then (spec_OneBits.j0 k a0_0 (a0_0 == 10) a0_0 a0_1 a0_2 a0_3 a0_4 a0_5 a0_6 a0_7 l0_8 l0_9) else (spec_OneBits.j0 k a0_0 (a0_0 == 18) a0_0 a0_1 a0_2 a0_3 a0_4 a0_5 a0_6 a0_7 l0_8 l0_9))))))) = some (r1, r2) := h
  clear h
  by_cases c2 : a0_0 = 2
  · rw [if_pos c2] at H
    have c2b0 : (a0_0 == 2) = true := beq_iff_eq.mpr c2
    have c2b1 : (a0_0 != 2) = false := bne_eq_false_iff_eq.mpr c2
    clear c2
    simp only [Option.some.injEq, Prod.mk.injEq] at H
    obtain ⟨rfl, rfl⟩ := H
    go_enter Tryz.func43, Tryz.ntmps43
    go_wp2_with (first | ((with_reducible refine gate_dst (N := 1) rfl ?_); refine box_event ?hg (N := 1) ?hd (cs := #[.int .i64 a0_0, .int .i64 a0_1, .bool a0_2, .int .i64 a0_3, .int .i64 a0_4, .int .i64 a0_5, .string a0_6, .bool a0_7, .slice A0_8 l0_8.length c0_8, .slice A0_9 l0_9.length c0_9]) (t := 32) ?hr ?_; (case hd => rfl); (case hg => rfl); (case hr => first | (go_simp; done) | (go_simp; rfl)); intro gb109 hg w3 hbox hb; have n0_ := Aside0.mk (below_step (by repeat (first | (with_reducible first | exact HB.out | apply below_alloc | apply pw_below_drewN | apply below_drew1) | exact HB.out)) hb); have n1_ := Aside0.mk (hbox); have n2_ := Aside0.mk ((by rw [hg]; exact (below_size (by repeat (first | (with_reducible first | exact HB.out | apply below_alloc | apply pw_below_drewN | apply below_drew1) | exact HB.out))) : w.heap.size ≤ gb109)); have n3_ := Aside0.mk ((by rw [hg]; exact (below_size (by repeat (first | (with_reducible first | exact HB.out | apply below_alloc | apply pw_below_drewN | apply below_drew1) | exact HB.out))) : w.heap.size ≤ gb109)); clear HB; have HB := n0_; have BK109 := n1_; have GW109 := n2_; have GE109 := n3_; clear n0_ n1_ n2_ n3_; clear hb hbox hg; have hcz4_0 : w3.cell? ⟨gb109, 0, none⟩ = some (.int .i64 a0_0) := (blk_cell BK109.out 0).trans rfl; have hcz4_1 : w3.cell? ⟨gb109, 1, none⟩ = some (.int .i64 a0_1) := (blk_cell BK109.out 1).trans rfl; have hcz4_2 : w3.cell? ⟨gb109, 2, none⟩ = some (.bool a0_2) := (blk_cell BK109.out 2).trans rfl; have hcz4_3 : w3.cell? ⟨gb109, 3, none⟩ = some (.int .i64 a0_3) := (blk_cell BK109.out 3).trans rfl; have hcz4_4 : w3.cell? ⟨gb109, 4, none⟩ = some (.int .i64 a0_4) := (blk_cell BK109.out 4).trans rfl; have hcz4_5 : w3.cell? ⟨gb109, 5, none⟩ = some (.int .i64 a0_5) := (blk_cell BK109.out 5).trans rfl; have hcz4_6 : w3.cell? ⟨gb109, 6, none⟩ = some (.string a0_6) := (blk_cell BK109.out 6).trans rfl; have hcz4_7 : w3.cell? ⟨gb109, 7, none⟩ = some (.bool a0_7) := (blk_cell BK109.out 7).trans rfl; have hcz4_8 : w3.cell? ⟨gb109, 8, none⟩ = some (.slice A0_8 l0_8.length c0_8) := (blk_cell BK109.out 8).trans rfl; have hcz4_9 : w3.cell? ⟨gb109, 9, none⟩ = some (.slice A0_9 l0_9.length c0_9) := (blk_cell BK109.out 9).trans rfl; have hfz4_0 := blk_frozen BK109.out 0; have hfz4_1 := blk_frozen BK109.out 1; have hfz4_2 := blk_frozen BK109.out 2; have hfz4_3 := blk_frozen BK109.out 3; have hfz4_4 := blk_frozen BK109.out 4; have hfz4_5 := blk_frozen BK109.out 5; have hfz4_6 := blk_frozen BK109.out 6; have hfz4_7 := blk_frozen BK109.out 7; have hfz4_8 := blk_frozen BK109.out 8; have hfz4_9 := blk_frozen BK109.out 9))
    repeat (go_quiet (first | ((with_reducible refine gate_dst (N := 1) rfl ?_); refine box_event ?hg (N := 1) ?hd (cs := #[.int .i64 a0_0, .int .i64 a0_1, .bool a0_2, .int .i64 a0_3, .int .i64 a0_4, .int .i64 a0_5, .string a0_6, .bool a0_7, .slice A0_8 l0_8.length c0_8, .slice A0_9 l0_9.length c0_9]) (t := 32) ?hr ?_; (case hd => rfl); (case hg => rfl); (case hr => first | (go_simp; done) | (go_simp; rfl)); intro gb109 hg w3 hbox hb; have n0_ := Aside0.mk (below_step (by repeat (first | (with_reducible first | exact HB.out | apply below_alloc | apply pw_below_drewN | apply below_drew1) | exact HB.out)) hb); have n1_ := Aside0.mk (hbox); have n2_ := Aside0.mk ((by rw [hg]; exact (below_size (by repeat (first | (with_reducible first | exact HB.out | apply below_alloc | apply pw_below_drewN | apply below_drew1) | exact HB.out))) : w.heap.size ≤ gb109)); have n3_ := Aside0.mk ((by rw [hg]; exact (below_size (by repeat (first | (with_reducible first | exact HB.out | apply below_alloc | apply pw_below_drewN | apply below_drew1) | exact HB.out))) : w.heap.size ≤ gb109)); clear HB; have HB := n0_; have BK109 := n1_; have GW109 := n2_; have GE109 := n3_; clear n0_ n1_ n2_ n3_; clear hb hbox hg; have hcz4_0 : w3.cell? ⟨gb109, 0, none⟩ = some (.int .i64 a0_0) := (blk_cell BK109.out 0).trans rfl; have hcz4_1 : w3.cell? ⟨gb109, 1, none⟩ = some (.int .i64 a0_1) := (blk_cell BK109.out 1).trans rfl; have hcz4_2 : w3.cell? ⟨gb109, 2, none⟩ = some (.bool a0_2) := (blk_cell BK109.out 2).trans rfl; have hcz4_3 : w3.cell? ⟨gb109, 3, none⟩ = some (.int .i64 a0_3) := (blk_cell BK109.out 3).trans rfl; have hcz4_4 : w3.cell? ⟨gb109, 4, none⟩ = some (.int .i64 a0_4) := (blk_cell BK109.out 4).trans rfl; have hcz4_5 : w3.cell? ⟨gb109, 5, none⟩ = some (.int .i64 a0_5) := (blk_cell BK109.out 5).trans rfl; have hcz4_6 : w3.cell? ⟨gb109, 6, none⟩ = some (.string a0_6) := (blk_cell BK109.out 6).trans rfl; have hcz4_7 : w3.cell? ⟨gb109, 7, none⟩ = some (.bool a0_7) := (blk_cell BK109.out 7).trans rfl; have hcz4_8 : w3.cell? ⟨gb109, 8, none⟩ = some (.slice A0_8 l0_8.length c0_8) := (blk_cell BK109.out 8).trans rfl; have hcz4_9 : w3.cell? ⟨gb109, 9, none⟩ = some (.slice A0_9 l0_9.length c0_9) := (blk_cell BK109.out 9).trans rfl; have hfz4_0 := blk_frozen BK109.out 0; have hfz4_1 := blk_frozen BK109.out 1; have hfz4_2 := blk_frozen BK109.out 2; have hfz4_3 := blk_frozen BK109.out 3; have hfz4_4 := blk_frozen BK109.out 4; have hfz4_5 := blk_frozen BK109.out 5; have hfz4_6 := blk_frozen BK109.out 6; have hfz4_7 := blk_frozen BK109.out 7; have hfz4_8 := blk_frozen BK109.out 8; have hfz4_9 := blk_frozen BK109.out 9)); try go_wp2_with (first | ((with_reducible refine gate_dst (N := 1) rfl ?_); refine box_event ?hg (N := 1) ?hd (cs := #[.int .i64 a0_0, .int .i64 a0_1, .bool a0_2, .int .i64 a0_3, .int .i64 a0_4, .int .i64 a0_5, .string a0_6, .bool a0_7, .slice A0_8 l0_8.length c0_8, .slice A0_9 l0_9.length c0_9]) (t := 32) ?hr ?_; (case hd => rfl); (case hg => rfl); (case hr => first | (go_simp; done) | (go_simp; rfl)); intro gb109 hg w3 hbox hb; have n0_ := Aside0.mk (below_step (by repeat (first | (with_reducible first | exact HB.out | apply below_alloc | apply pw_below_drewN | apply below_drew1) | exact HB.out)) hb); have n1_ := Aside0.mk (hbox); have n2_ := Aside0.mk ((by rw [hg]; exact (below_size (by repeat (first | (with_reducible first | exact HB.out | apply below_alloc | apply pw_below_drewN | apply below_drew1) | exact HB.out))) : w.heap.size ≤ gb109)); have n3_ := Aside0.mk ((by rw [hg]; exact (below_size (by repeat (first | (with_reducible first | exact HB.out | apply below_alloc | apply pw_below_drewN | apply below_drew1) | exact HB.out))) : w.heap.size ≤ gb109)); clear HB; have HB := n0_; have BK109 := n1_; have GW109 := n2_; have GE109 := n3_; clear n0_ n1_ n2_ n3_; clear hb hbox hg; have hcz4_0 : w3.cell? ⟨gb109, 0, none⟩ = some (.int .i64 a0_0) := (blk_cell BK109.out 0).trans rfl; have hcz4_1 : w3.cell? ⟨gb109, 1, none⟩ = some (.int .i64 a0_1) := (blk_cell BK109.out 1).trans rfl; have hcz4_2 : w3.cell? ⟨gb109, 2, none⟩ = some (.bool a0_2) := (blk_cell BK109.out 2).trans rfl; have hcz4_3 : w3.cell? ⟨gb109, 3, none⟩ = some (.int .i64 a0_3) := (blk_cell BK109.out 3).trans rfl; have hcz4_4 : w3.cell? ⟨gb109, 4, none⟩ = some (.int .i64 a0_4) := (blk_cell BK109.out 4).trans rfl; have hcz4_5 : w3.cell? ⟨gb109, 5, none⟩ = some (.int .i64 a0_5) := (blk_cell BK109.out 5).trans rfl; have hcz4_6 : w3.cell? ⟨gb109, 6, none⟩ = some (.string a0_6) := (blk_cell BK109.out 6).trans rfl; have hcz4_7 : w3.cell? ⟨gb109, 7, none⟩ = some (.bool a0_7) := (blk_cell BK109.out 7).trans rfl; have hcz4_8 : w3.cell? ⟨gb109, 8, none⟩ = some (.slice A0_8 l0_8.length c0_8) := (blk_cell BK109.out 8).trans rfl; have hcz4_9 : w3.cell? ⟨gb109, 9, none⟩ = some (.slice A0_9 l0_9.length c0_9) := (blk_cell BK109.out 9).trans rfl; have hfz4_0 := blk_frozen BK109.out 0; have hfz4_1 := blk_frozen BK109.out 1; have hfz4_2 := blk_frozen BK109.out 2; have hfz4_3 := blk_frozen BK109.out 3; have hfz4_4 := blk_frozen BK109.out 4; have hfz4_5 := blk_frozen BK109.out 5; have hfz4_6 := blk_frozen BK109.out 6; have hfz4_7 := blk_frozen BK109.out 7; have hfz4_8 := blk_frozen BK109.out 8; have hfz4_9 := blk_frozen BK109.out 9)))
    go_ret2
    exact ⟨by first | rfl | (simp [errW_none, errW_some] <;> rfl) | (simp [*, errW_none, errW_some] <;> rfl), by repeat (first | (with_reducible first | exact HB.out | apply below_alloc | apply pw_below_drewN | apply below_drew1 | refine below_set ?_ GE109.out) | exact HB.out)⟩
  · rw [if_neg c2] at H
    have c2b0 : (a0_0 == 2) = false := beq_eq_false_iff_ne.mpr c2
    have c2b1 : (a0_0 != 2) = true := bne_iff_ne.mpr c2
    by_cases c5 : a0_0 = 3
    · rw [if_pos c5] at H
      have c5b0 : (a0_0 == 3) = true := beq_iff_eq.mpr c5
      have c5b1 : (a0_0 != 3) = false := bne_eq_false_iff_eq.mpr c5
      clear c5
      simp only [Option.some.injEq, Prod.mk.injEq] at H
      obtain ⟨rfl, rfl⟩ := H
      go_enter Tryz.func43, Tryz.ntmps43
      go_wp2_with (first | ((with_reducible refine gate_dst (N := 1) rfl ?_); refine box_event ?hg (N := 1) ?hd (cs := #[.int .i64 a0_0, .int .i64 a0_1, .bool a0_2, .int .i64 a0_3, .int .i64 a0_4, .int .i64 a0_5, .string a0_6, .bool a0_7, .slice A0_8 l0_8.length c0_8, .slice A0_9 l0_9.length c0_9]) (t := 32) ?hr ?_; (case hd => rfl); (case hg => rfl); (case hr => first | (go_simp; done) | (go_simp; rfl)); intro gb109 hg w6 hbox hb; have n0_ := Aside0.mk (below_step (by repeat (first | (with_reducible first | exact HB.out | apply below_alloc | apply pw_below_drewN | apply below_drew1) | exact HB.out)) hb); have n1_ := Aside0.mk (hbox); have n2_ := Aside0.mk ((by rw [hg]; exact (below_size (by repeat (first | (with_reducible first | exact HB.out | apply below_alloc | apply pw_below_drewN | apply below_drew1) | exact HB.out))) : w.heap.size ≤ gb109)); have n3_ := Aside0.mk ((by rw [hg]; exact (below_size (by repeat (first | (with_reducible first | exact HB.out | apply below_alloc | apply pw_below_drewN | apply below_drew1) | exact HB.out))) : w.heap.size ≤ gb109)); clear HB; have HB := n0_; have BK109 := n1_; have GW109 := n2_; have GE109 := n3_; clear n0_ n1_ n2_ n3_; clear hb hbox hg; have hcz7_0 : w6.cell? ⟨gb109, 0, none⟩ = some (.int .i64 a0_0) := (blk_cell BK109.out 0).trans rfl; have hcz7_1 : w6.cell? ⟨gb109, 1, none⟩ = some (.int .i64 a0_1) := (blk_cell BK109.out 1).trans rfl; have hcz7_2 : w6.cell? ⟨gb109, 2, none⟩ = some (.bool a0_2) := (blk_cell BK109.out 2).trans rfl; have hcz7_3 : w6.cell? ⟨gb109, 3, none⟩ = some (.int .i64 a0_3) := (blk_cell BK109.out 3).trans rfl; have hcz7_4 : w6.cell? ⟨gb109, 4, none⟩ = some (.int .i64 a0_4) := (blk_cell BK109.out 4).trans rfl; have hcz7_5 : w6.cell? ⟨gb109, 5, none⟩ = some (.int .i64 a0_5) := (blk_cell BK109.out 5).trans rfl; have hcz7_6 : w6.cell? ⟨gb109, 6, none⟩ = some (.string a0_6) := (blk_cell BK109.out 6).trans rfl; have hcz7_7 : w6.cell? ⟨gb109, 7, none⟩ = some (.bool a0_7) := (blk_cell BK109.out 7).trans rfl; have hcz7_8 : w6.cell? ⟨gb109, 8, none⟩ = some (.slice A0_8 l0_8.length c0_8) := (blk_cell BK109.out 8).trans rfl; have hcz7_9 : w6.cell? ⟨gb109, 9, none⟩ = some (.slice A0_9 l0_9.length c0_9) := (blk_cell BK109.out 9).trans rfl; have hfz7_0 := blk_frozen BK109.out 0; have hfz7_1 := blk_frozen BK109.out 1; have hfz7_2 := blk_frozen BK109.out 2; have hfz7_3 := blk_frozen BK109.out 3; have hfz7_4 := blk_frozen BK109.out 4; have hfz7_5 := blk_frozen BK109.out 5; have hfz7_6 := blk_frozen BK109.out 6; have hfz7_7 := blk_frozen BK109.out 7; have hfz7_8 := blk_frozen BK109.out 8; have hfz7_9 := blk_frozen BK109.out 9))
      repeat (go_quiet (first | ((with_reducible refine gate_dst (N := 1) rfl ?_); refine box_event ?hg (N := 1) ?hd (cs := #[.int .i64 a0_0, .int .i64 a0_1, .bool a0_2, .int .i64 a0_3, .int .i64 a0_4, .int .i64 a0_5, .string a0_6, .bool a0_7, .slice A0_8 l0_8.length c0_8, .slice A0_9 l0_9.length c0_9]) (t := 32) ?hr ?_; (case hd => rfl); (case hg => rfl); (case hr => first | (go_simp; done) | (go_simp; rfl)); intro gb109 hg w6 hbox hb; have n0_ := Aside0.mk (below_step (by repeat (first | (with_reducible first | exact HB.out | apply below_alloc | apply pw_below_drewN | apply below_drew1) | exact HB.out)) hb); have n1_ := Aside0.mk (hbox); have n2_ := Aside0.mk ((by rw [hg]; exact (below_size (by repeat (first | (with_reducible first | exact HB.out | apply below_alloc | apply pw_below_drewN | apply below_drew1) | exact HB.out))) : w.heap.size ≤ gb109)); have n3_ := Aside0.mk ((by rw [hg]; exact (below_size (by repeat (first | (with_reducible first | exact HB.out | apply below_alloc | apply pw_below_drewN | apply below_drew1) | exact HB.out))) : w.heap.size ≤ gb109)); clear HB; have HB := n0_; have BK109 := n1_; have GW109 := n2_; have GE109 := n3_; clear n0_ n1_ n2_ n3_; clear hb hbox hg; have hcz7_0 : w6.cell? ⟨gb109, 0, none⟩ = some (.int .i64 a0_0) := (blk_cell BK109.out 0).trans rfl; have hcz7_1 : w6.cell? ⟨gb109, 1, none⟩ = some (.int .i64 a0_1) := (blk_cell BK109.out 1).trans rfl; have hcz7_2 : w6.cell? ⟨gb109, 2, none⟩ = some (.bool a0_2) := (blk_cell BK109.out 2).trans rfl; have hcz7_3 : w6.cell? ⟨gb109, 3, none⟩ = some (.int .i64 a0_3) := (blk_cell BK109.out 3).trans rfl; have hcz7_4 : w6.cell? ⟨gb109, 4, none⟩ = some (.int .i64 a0_4) := (blk_cell BK109.out 4).trans rfl; have hcz7_5 : w6.cell? ⟨gb109, 5, none⟩ = some (.int .i64 a0_5) := (blk_cell BK109.out 5).trans rfl; have hcz7_6 : w6.cell? ⟨gb109, 6, none⟩ = some (.string a0_6) := (blk_cell BK109.out 6).trans rfl; have hcz7_7 : w6.cell? ⟨gb109, 7, none⟩ = some (.bool a0_7) := (blk_cell BK109.out 7).trans rfl; have hcz7_8 : w6.cell? ⟨gb109, 8, none⟩ = some (.slice A0_8 l0_8.length c0_8) := (blk_cell BK109.out 8).trans rfl; have hcz7_9 : w6.cell? ⟨gb109, 9, none⟩ = some (.slice A0_9 l0_9.length c0_9) := (blk_cell BK109.out 9).trans rfl; have hfz7_0 := blk_frozen BK109.out 0; have hfz7_1 := blk_frozen BK109.out 1; have hfz7_2 := blk_frozen BK109.out 2; have hfz7_3 := blk_frozen BK109.out 3; have hfz7_4 := blk_frozen BK109.out 4; have hfz7_5 := blk_frozen BK109.out 5; have hfz7_6 := blk_frozen BK109.out 6; have hfz7_7 := blk_frozen BK109.out 7; have hfz7_8 := blk_frozen BK109.out 8; have hfz7_9 := blk_frozen BK109.out 9)); try go_wp2_with (first | ((with_reducible refine gate_dst (N := 1) rfl ?_); refine box_event ?hg (N := 1) ?hd (cs := #[.int .i64 a0_0, .int .i64 a0_1, .bool a0_2, .int .i64 a0_3, .int .i64 a0_4, .int .i64 a0_5, .string a0_6, .bool a0_7, .slice A0_8 l0_8.length c0_8, .slice A0_9 l0_9.length c0_9]) (t := 32) ?hr ?_; (case hd => rfl); (case hg => rfl); (case hr => first | (go_simp; done) | (go_simp; rfl)); intro gb109 hg w6 hbox hb; have n0_ := Aside0.mk (below_step (by repeat (first | (with_reducible first | exact HB.out | apply below_alloc | apply pw_below_drewN | apply below_drew1) | exact HB.out)) hb); have n1_ := Aside0.mk (hbox); have n2_ := Aside0.mk ((by rw [hg]; exact (below_size (by repeat (first | (with_reducible first | exact HB.out | apply below_alloc | apply pw_below_drewN | apply below_drew1) | exact HB.out))) : w.heap.size ≤ gb109)); have n3_ := Aside0.mk ((by rw [hg]; exact (below_size (by repeat (first | (with_reducible first | exact HB.out | apply below_alloc | apply pw_below_drewN | apply below_drew1) | exact HB.out))) : w.heap.size ≤ gb109)); clear HB; have HB := n0_; have BK109 := n1_; have GW109 := n2_; have GE109 := n3_; clear n0_ n1_ n2_ n3_; clear hb hbox hg; have hcz7_0 : w6.cell? ⟨gb109, 0, none⟩ = some (.int .i64 a0_0) := (blk_cell BK109.out 0).trans rfl; have hcz7_1 : w6.cell? ⟨gb109, 1, none⟩ = some (.int .i64 a0_1) := (blk_cell BK109.out 1).trans rfl; have hcz7_2 : w6.cell? ⟨gb109, 2, none⟩ = some (.bool a0_2) := (blk_cell BK109.out 2).trans rfl; have hcz7_3 : w6.cell? ⟨gb109, 3, none⟩ = some (.int .i64 a0_3) := (blk_cell BK109.out 3).trans rfl; have hcz7_4 : w6.cell? ⟨gb109, 4, none⟩ = some (.int .i64 a0_4) := (blk_cell BK109.out 4).trans rfl; have hcz7_5 : w6.cell? ⟨gb109, 5, none⟩ = some (.int .i64 a0_5) := (blk_cell BK109.out 5).trans rfl; have hcz7_6 : w6.cell? ⟨gb109, 6, none⟩ = some (.string a0_6) := (blk_cell BK109.out 6).trans rfl; have hcz7_7 : w6.cell? ⟨gb109, 7, none⟩ = some (.bool a0_7) := (blk_cell BK109.out 7).trans rfl; have hcz7_8 : w6.cell? ⟨gb109, 8, none⟩ = some (.slice A0_8 l0_8.length c0_8) := (blk_cell BK109.out 8).trans rfl; have hcz7_9 : w6.cell? ⟨gb109, 9, none⟩ = some (.slice A0_9 l0_9.length c0_9) := (blk_cell BK109.out 9).trans rfl; have hfz7_0 := blk_frozen BK109.out 0; have hfz7_1 := blk_frozen BK109.out 1; have hfz7_2 := blk_frozen BK109.out 2; have hfz7_3 := blk_frozen BK109.out 3; have hfz7_4 := blk_frozen BK109.out 4; have hfz7_5 := blk_frozen BK109.out 5; have hfz7_6 := blk_frozen BK109.out 6; have hfz7_7 := blk_frozen BK109.out 7; have hfz7_8 := blk_frozen BK109.out 8; have hfz7_9 := blk_frozen BK109.out 9)))
      go_ret2
      exact ⟨by first | rfl | (simp [errW_none, errW_some] <;> rfl) | (simp [*, errW_none, errW_some] <;> rfl), by repeat (first | (with_reducible first | exact HB.out | apply below_alloc | apply pw_below_drewN | apply below_drew1 | refine below_set ?_ GE109.out) | exact HB.out)⟩
    · rw [if_neg c5] at H
      have c5b0 : (a0_0 == 3) = false := beq_eq_false_iff_ne.mpr c5
      have c5b1 : (a0_0 != 3) = true := bne_iff_ne.mpr c5
      by_cases c8 : a0_0 = 6
      · rw [if_pos c8] at H
        have c8b0 : (a0_0 == 6) = true := beq_iff_eq.mpr c8
        have c8b1 : (a0_0 != 6) = false := bne_eq_false_iff_eq.mpr c8
        clear c8
        simp only [Option.some.injEq, Prod.mk.injEq] at H
        obtain ⟨rfl, rfl⟩ := H
        go_enter Tryz.func43, Tryz.ntmps43
        go_wp2_with (first | ((with_reducible refine gate_dst (N := 1) rfl ?_); refine box_event ?hg (N := 1) ?hd (cs := #[.int .i64 a0_0, .int .i64 a0_1, .bool a0_2, .int .i64 a0_3, .int .i64 a0_4, .int .i64 a0_5, .string a0_6, .bool a0_7, .slice A0_8 l0_8.length c0_8, .slice A0_9 l0_9.length c0_9]) (t := 32) ?hr ?_; (case hd => rfl); (case hg => rfl); (case hr => first | (go_simp; done) | (go_simp; rfl)); intro gb109 hg w9 hbox hb; have n0_ := Aside0.mk (below_step (by repeat (first | (with_reducible first | exact HB.out | apply below_alloc | apply pw_below_drewN | apply below_drew1) | exact HB.out)) hb); have n1_ := Aside0.mk (hbox); have n2_ := Aside0.mk ((by rw [hg]; exact (below_size (by repeat (first | (with_reducible first | exact HB.out | apply below_alloc | apply pw_below_drewN | apply below_drew1) | exact HB.out))) : w.heap.size ≤ gb109)); have n3_ := Aside0.mk ((by rw [hg]; exact (below_size (by repeat (first | (with_reducible first | exact HB.out | apply below_alloc | apply pw_below_drewN | apply below_drew1) | exact HB.out))) : w.heap.size ≤ gb109)); clear HB; have HB := n0_; have BK109 := n1_; have GW109 := n2_; have GE109 := n3_; clear n0_ n1_ n2_ n3_; clear hb hbox hg; have hcz10_0 : w9.cell? ⟨gb109, 0, none⟩ = some (.int .i64 a0_0) := (blk_cell BK109.out 0).trans rfl; have hcz10_1 : w9.cell? ⟨gb109, 1, none⟩ = some (.int .i64 a0_1) := (blk_cell BK109.out 1).trans rfl; have hcz10_2 : w9.cell? ⟨gb109, 2, none⟩ = some (.bool a0_2) := (blk_cell BK109.out 2).trans rfl; have hcz10_3 : w9.cell? ⟨gb109, 3, none⟩ = some (.int .i64 a0_3) := (blk_cell BK109.out 3).trans rfl; have hcz10_4 : w9.cell? ⟨gb109, 4, none⟩ = some (.int .i64 a0_4) := (blk_cell BK109.out 4).trans rfl; have hcz10_5 : w9.cell? ⟨gb109, 5, none⟩ = some (.int .i64 a0_5) := (blk_cell BK109.out 5).trans rfl; have hcz10_6 : w9.cell? ⟨gb109, 6, none⟩ = some (.string a0_6) := (blk_cell BK109.out 6).trans rfl; have hcz10_7 : w9.cell? ⟨gb109, 7, none⟩ = some (.bool a0_7) := (blk_cell BK109.out 7).trans rfl; have hcz10_8 : w9.cell? ⟨gb109, 8, none⟩ = some (.slice A0_8 l0_8.length c0_8) := (blk_cell BK109.out 8).trans rfl; have hcz10_9 : w9.cell? ⟨gb109, 9, none⟩ = some (.slice A0_9 l0_9.length c0_9) := (blk_cell BK109.out 9).trans rfl; have hfz10_0 := blk_frozen BK109.out 0; have hfz10_1 := blk_frozen BK109.out 1; have hfz10_2 := blk_frozen BK109.out 2; have hfz10_3 := blk_frozen BK109.out 3; have hfz10_4 := blk_frozen BK109.out 4; have hfz10_5 := blk_frozen BK109.out 5; have hfz10_6 := blk_frozen BK109.out 6; have hfz10_7 := blk_frozen BK109.out 7; have hfz10_8 := blk_frozen BK109.out 8; have hfz10_9 := blk_frozen BK109.out 9))
        repeat (go_quiet (first | ((with_reducible refine gate_dst (N := 1) rfl ?_); refine box_event ?hg (N := 1) ?hd (cs := #[.int .i64 a0_0, .int .i64 a0_1, .bool a0_2, .int .i64 a0_3, .int .i64 a0_4, .int .i64 a0_5, .string a0_6, .bool a0_7, .slice A0_8 l0_8.length c0_8, .slice A0_9 l0_9.length c0_9]) (t := 32) ?hr ?_; (case hd => rfl); (case hg => rfl); (case hr => first | (go_simp; done) | (go_simp; rfl)); intro gb109 hg w9 hbox hb; have n0_ := Aside0.mk (below_step (by repeat (first | (with_reducible first | exact HB.out | apply below_alloc | apply pw_below_drewN | apply below_drew1) | exact HB.out)) hb); have n1_ := Aside0.mk (hbox); have n2_ := Aside0.mk ((by rw [hg]; exact (below_size (by repeat (first | (with_reducible first | exact HB.out | apply below_alloc | apply pw_below_drewN | apply below_drew1) | exact HB.out))) : w.heap.size ≤ gb109)); have n3_ := Aside0.mk ((by rw [hg]; exact (below_size (by repeat (first | (with_reducible first | exact HB.out | apply below_alloc | apply pw_below_drewN | apply below_drew1) | exact HB.out))) : w.heap.size ≤ gb109)); clear HB; have HB := n0_; have BK109 := n1_; have GW109 := n2_; have GE109 := n3_; clear n0_ n1_ n2_ n3_; clear hb hbox hg; have hcz10_0 : w9.cell? ⟨gb109, 0, none⟩ = some (.int .i64 a0_0) := (blk_cell BK109.out 0).trans rfl; have hcz10_1 : w9.cell? ⟨gb109, 1, none⟩ = some (.int .i64 a0_1) := (blk_cell BK109.out 1).trans rfl; have hcz10_2 : w9.cell? ⟨gb109, 2, none⟩ = some (.bool a0_2) := (blk_cell BK109.out 2).trans rfl; have hcz10_3 : w9.cell? ⟨gb109, 3, none⟩ = some (.int .i64 a0_3) := (blk_cell BK109.out 3).trans rfl; have hcz10_4 : w9.cell? ⟨gb109, 4, none⟩ = some (.int .i64 a0_4) := (blk_cell BK109.out 4).trans rfl; have hcz10_5 : w9.cell? ⟨gb109, 5, none⟩ = some (.int .i64 a0_5) := (blk_cell BK109.out 5).trans rfl; have hcz10_6 : w9.cell? ⟨gb109, 6, none⟩ = some (.string a0_6) := (blk_cell BK109.out 6).trans rfl; have hcz10_7 : w9.cell? ⟨gb109, 7, none⟩ = some (.bool a0_7) := (blk_cell BK109.out 7).trans rfl; have hcz10_8 : w9.cell? ⟨gb109, 8, none⟩ = some (.slice A0_8 l0_8.length c0_8) := (blk_cell BK109.out 8).trans rfl; have hcz10_9 : w9.cell? ⟨gb109, 9, none⟩ = some (.slice A0_9 l0_9.length c0_9) := (blk_cell BK109.out 9).trans rfl; have hfz10_0 := blk_frozen BK109.out 0; have hfz10_1 := blk_frozen BK109.out 1; have hfz10_2 := blk_frozen BK109.out 2; have hfz10_3 := blk_frozen BK109.out 3; have hfz10_4 := blk_frozen BK109.out 4; have hfz10_5 := blk_frozen BK109.out 5; have hfz10_6 := blk_frozen BK109.out 6; have hfz10_7 := blk_frozen BK109.out 7; have hfz10_8 := blk_frozen BK109.out 8; have hfz10_9 := blk_frozen BK109.out 9)); try go_wp2_with (first | ((with_reducible refine gate_dst (N := 1) rfl ?_); refine box_event ?hg (N := 1) ?hd (cs := #[.int .i64 a0_0, .int .i64 a0_1, .bool a0_2, .int .i64 a0_3, .int .i64 a0_4, .int .i64 a0_5, .string a0_6, .bool a0_7, .slice A0_8 l0_8.length c0_8, .slice A0_9 l0_9.length c0_9]) (t := 32) ?hr ?_; (case hd => rfl); (case hg => rfl); (case hr => first | (go_simp; done) | (go_simp; rfl)); intro gb109 hg w9 hbox hb; have n0_ := Aside0.mk (below_step (by repeat (first | (with_reducible first | exact HB.out | apply below_alloc | apply pw_below_drewN | apply below_drew1) | exact HB.out)) hb); have n1_ := Aside0.mk (hbox); have n2_ := Aside0.mk ((by rw [hg]; exact (below_size (by repeat (first | (with_reducible first | exact HB.out | apply below_alloc | apply pw_below_drewN | apply below_drew1) | exact HB.out))) : w.heap.size ≤ gb109)); have n3_ := Aside0.mk ((by rw [hg]; exact (below_size (by repeat (first | (with_reducible first | exact HB.out | apply below_alloc | apply pw_below_drewN | apply below_drew1) | exact HB.out))) : w.heap.size ≤ gb109)); clear HB; have HB := n0_; have BK109 := n1_; have GW109 := n2_; have GE109 := n3_; clear n0_ n1_ n2_ n3_; clear hb hbox hg; have hcz10_0 : w9.cell? ⟨gb109, 0, none⟩ = some (.int .i64 a0_0) := (blk_cell BK109.out 0).trans rfl; have hcz10_1 : w9.cell? ⟨gb109, 1, none⟩ = some (.int .i64 a0_1) := (blk_cell BK109.out 1).trans rfl; have hcz10_2 : w9.cell? ⟨gb109, 2, none⟩ = some (.bool a0_2) := (blk_cell BK109.out 2).trans rfl; have hcz10_3 : w9.cell? ⟨gb109, 3, none⟩ = some (.int .i64 a0_3) := (blk_cell BK109.out 3).trans rfl; have hcz10_4 : w9.cell? ⟨gb109, 4, none⟩ = some (.int .i64 a0_4) := (blk_cell BK109.out 4).trans rfl; have hcz10_5 : w9.cell? ⟨gb109, 5, none⟩ = some (.int .i64 a0_5) := (blk_cell BK109.out 5).trans rfl; have hcz10_6 : w9.cell? ⟨gb109, 6, none⟩ = some (.string a0_6) := (blk_cell BK109.out 6).trans rfl; have hcz10_7 : w9.cell? ⟨gb109, 7, none⟩ = some (.bool a0_7) := (blk_cell BK109.out 7).trans rfl; have hcz10_8 : w9.cell? ⟨gb109, 8, none⟩ = some (.slice A0_8 l0_8.length c0_8) := (blk_cell BK109.out 8).trans rfl; have hcz10_9 : w9.cell? ⟨gb109, 9, none⟩ = some (.slice A0_9 l0_9.length c0_9) := (blk_cell BK109.out 9).trans rfl; have hfz10_0 := blk_frozen BK109.out 0; have hfz10_1 := blk_frozen BK109.out 1; have hfz10_2 := blk_frozen BK109.out 2; have hfz10_3 := blk_frozen BK109.out 3; have hfz10_4 := blk_frozen BK109.out 4; have hfz10_5 := blk_frozen BK109.out 5; have hfz10_6 := blk_frozen BK109.out 6; have hfz10_7 := blk_frozen BK109.out 7; have hfz10_8 := blk_frozen BK109.out 8; have hfz10_9 := blk_frozen BK109.out 9)))
        go_ret2
        exact ⟨by first | rfl | (simp [errW_none, errW_some] <;> rfl) | (simp [*, errW_none, errW_some] <;> rfl), by repeat (first | (with_reducible first | exact HB.out | apply below_alloc | apply pw_below_drewN | apply below_drew1 | refine below_set ?_ GE109.out) | exact HB.out)⟩
      · rw [if_neg c8] at H
        have c8b0 : (a0_0 == 6) = false := beq_eq_false_iff_ne.mpr c8
        have c8b1 : (a0_0 != 6) = true := bne_iff_ne.mpr c8
        by_cases c11 : a0_0 = 8
        · rw [if_pos c11] at H
          have c11b0 : (a0_0 == 8) = true := beq_iff_eq.mpr c11
          have c11b1 : (a0_0 != 8) = false := bne_eq_false_iff_eq.mpr c11
          clear c11
          simp only [Option.some.injEq, Prod.mk.injEq] at H
          obtain ⟨rfl, rfl⟩ := H
          go_enter Tryz.func43, Tryz.ntmps43
          go_wp2_with (first | ((with_reducible refine gate_dst (N := 1) rfl ?_); refine box_event ?hg (N := 1) ?hd (cs := #[.int .i64 a0_0, .int .i64 a0_1, .bool a0_2, .int .i64 a0_3, .int .i64 a0_4, .int .i64 a0_5, .string a0_6, .bool a0_7, .slice A0_8 l0_8.length c0_8, .slice A0_9 l0_9.length c0_9]) (t := 32) ?hr ?_; (case hd => rfl); (case hg => rfl); (case hr => first | (go_simp; done) | (go_simp; rfl)); intro gb109 hg w12 hbox hb; have n0_ := Aside0.mk (below_step (by repeat (first | (with_reducible first | exact HB.out | apply below_alloc | apply pw_below_drewN | apply below_drew1) | exact HB.out)) hb); have n1_ := Aside0.mk (hbox); have n2_ := Aside0.mk ((by rw [hg]; exact (below_size (by repeat (first | (with_reducible first | exact HB.out | apply below_alloc | apply pw_below_drewN | apply below_drew1) | exact HB.out))) : w.heap.size ≤ gb109)); have n3_ := Aside0.mk ((by rw [hg]; exact (below_size (by repeat (first | (with_reducible first | exact HB.out | apply below_alloc | apply pw_below_drewN | apply below_drew1) | exact HB.out))) : w.heap.size ≤ gb109)); clear HB; have HB := n0_; have BK109 := n1_; have GW109 := n2_; have GE109 := n3_; clear n0_ n1_ n2_ n3_; clear hb hbox hg; have hcz13_0 : w12.cell? ⟨gb109, 0, none⟩ = some (.int .i64 a0_0) := (blk_cell BK109.out 0).trans rfl; have hcz13_1 : w12.cell? ⟨gb109, 1, none⟩ = some (.int .i64 a0_1) := (blk_cell BK109.out 1).trans rfl; have hcz13_2 : w12.cell? ⟨gb109, 2, none⟩ = some (.bool a0_2) := (blk_cell BK109.out 2).trans rfl; have hcz13_3 : w12.cell? ⟨gb109, 3, none⟩ = some (.int .i64 a0_3) := (blk_cell BK109.out 3).trans rfl; have hcz13_4 : w12.cell? ⟨gb109, 4, none⟩ = some (.int .i64 a0_4) := (blk_cell BK109.out 4).trans rfl; have hcz13_5 : w12.cell? ⟨gb109, 5, none⟩ = some (.int .i64 a0_5) := (blk_cell BK109.out 5).trans rfl; have hcz13_6 : w12.cell? ⟨gb109, 6, none⟩ = some (.string a0_6) := (blk_cell BK109.out 6).trans rfl; have hcz13_7 : w12.cell? ⟨gb109, 7, none⟩ = some (.bool a0_7) := (blk_cell BK109.out 7).trans rfl; have hcz13_8 : w12.cell? ⟨gb109, 8, none⟩ = some (.slice A0_8 l0_8.length c0_8) := (blk_cell BK109.out 8).trans rfl; have hcz13_9 : w12.cell? ⟨gb109, 9, none⟩ = some (.slice A0_9 l0_9.length c0_9) := (blk_cell BK109.out 9).trans rfl; have hfz13_0 := blk_frozen BK109.out 0; have hfz13_1 := blk_frozen BK109.out 1; have hfz13_2 := blk_frozen BK109.out 2; have hfz13_3 := blk_frozen BK109.out 3; have hfz13_4 := blk_frozen BK109.out 4; have hfz13_5 := blk_frozen BK109.out 5; have hfz13_6 := blk_frozen BK109.out 6; have hfz13_7 := blk_frozen BK109.out 7; have hfz13_8 := blk_frozen BK109.out 8; have hfz13_9 := blk_frozen BK109.out 9))
          repeat (go_quiet (first | ((with_reducible refine gate_dst (N := 1) rfl ?_); refine box_event ?hg (N := 1) ?hd (cs := #[.int .i64 a0_0, .int .i64 a0_1, .bool a0_2, .int .i64 a0_3, .int .i64 a0_4, .int .i64 a0_5, .string a0_6, .bool a0_7, .slice A0_8 l0_8.length c0_8, .slice A0_9 l0_9.length c0_9]) (t := 32) ?hr ?_; (case hd => rfl); (case hg => rfl); (case hr => first | (go_simp; done) | (go_simp; rfl)); intro gb109 hg w12 hbox hb; have n0_ := Aside0.mk (below_step (by repeat (first | (with_reducible first | exact HB.out | apply below_alloc | apply pw_below_drewN | apply below_drew1) | exact HB.out)) hb); have n1_ := Aside0.mk (hbox); have n2_ := Aside0.mk ((by rw [hg]; exact (below_size (by repeat (first | (with_reducible first | exact HB.out | apply below_alloc | apply pw_below_drewN | apply below_drew1) | exact HB.out))) : w.heap.size ≤ gb109)); have n3_ := Aside0.mk ((by rw [hg]; exact (below_size (by repeat (first | (with_reducible first | exact HB.out | apply below_alloc | apply pw_below_drewN | apply below_drew1) | exact HB.out))) : w.heap.size ≤ gb109)); clear HB; have HB := n0_; have BK109 := n1_; have GW109 := n2_; have GE109 := n3_; clear n0_ n1_ n2_ n3_; clear hb hbox hg; have hcz13_0 : w12.cell? ⟨gb109, 0, none⟩ = some (.int .i64 a0_0) := (blk_cell BK109.out 0).trans rfl; have hcz13_1 : w12.cell? ⟨gb109, 1, none⟩ = some (.int .i64 a0_1) := (blk_cell BK109.out 1).trans rfl; have hcz13_2 : w12.cell? ⟨gb109, 2, none⟩ = some (.bool a0_2) := (blk_cell BK109.out 2).trans rfl; have hcz13_3 : w12.cell? ⟨gb109, 3, none⟩ = some (.int .i64 a0_3) := (blk_cell BK109.out 3).trans rfl; have hcz13_4 : w12.cell? ⟨gb109, 4, none⟩ = some (.int .i64 a0_4) := (blk_cell BK109.out 4).trans rfl; have hcz13_5 : w12.cell? ⟨gb109, 5, none⟩ = some (.int .i64 a0_5) := (blk_cell BK109.out 5).trans rfl; have hcz13_6 : w12.cell? ⟨gb109, 6, none⟩ = some (.string a0_6) := (blk_cell BK109.out 6).trans rfl; have hcz13_7 : w12.cell? ⟨gb109, 7, none⟩ = some (.bool a0_7) := (blk_cell BK109.out 7).trans rfl; have hcz13_8 : w12.cell? ⟨gb109, 8, none⟩ = some (.slice A0_8 l0_8.length c0_8) := (blk_cell BK109.out 8).trans rfl; have hcz13_9 : w12.cell? ⟨gb109, 9, none⟩ = some (.slice A0_9 l0_9.length c0_9) := (blk_cell BK109.out 9).trans rfl; have hfz13_0 := blk_frozen BK109.out 0; have hfz13_1 := blk_frozen BK109.out 1; have hfz13_2 := blk_frozen BK109.out 2; have hfz13_3 := blk_frozen BK109.out 3; have hfz13_4 := blk_frozen BK109.out 4; have hfz13_5 := blk_frozen BK109.out 5; have hfz13_6 := blk_frozen BK109.out 6; have hfz13_7 := blk_frozen BK109.out 7; have hfz13_8 := blk_frozen BK109.out 8; have hfz13_9 := blk_frozen BK109.out 9)); try go_wp2_with (first | ((with_reducible refine gate_dst (N := 1) rfl ?_); refine box_event ?hg (N := 1) ?hd (cs := #[.int .i64 a0_0, .int .i64 a0_1, .bool a0_2, .int .i64 a0_3, .int .i64 a0_4, .int .i64 a0_5, .string a0_6, .bool a0_7, .slice A0_8 l0_8.length c0_8, .slice A0_9 l0_9.length c0_9]) (t := 32) ?hr ?_; (case hd => rfl); (case hg => rfl); (case hr => first | (go_simp; done) | (go_simp; rfl)); intro gb109 hg w12 hbox hb; have n0_ := Aside0.mk (below_step (by repeat (first | (with_reducible first | exact HB.out | apply below_alloc | apply pw_below_drewN | apply below_drew1) | exact HB.out)) hb); have n1_ := Aside0.mk (hbox); have n2_ := Aside0.mk ((by rw [hg]; exact (below_size (by repeat (first | (with_reducible first | exact HB.out | apply below_alloc | apply pw_below_drewN | apply below_drew1) | exact HB.out))) : w.heap.size ≤ gb109)); have n3_ := Aside0.mk ((by rw [hg]; exact (below_size (by repeat (first | (with_reducible first | exact HB.out | apply below_alloc | apply pw_below_drewN | apply below_drew1) | exact HB.out))) : w.heap.size ≤ gb109)); clear HB; have HB := n0_; have BK109 := n1_; have GW109 := n2_; have GE109 := n3_; clear n0_ n1_ n2_ n3_; clear hb hbox hg; have hcz13_0 : w12.cell? ⟨gb109, 0, none⟩ = some (.int .i64 a0_0) := (blk_cell BK109.out 0).trans rfl; have hcz13_1 : w12.cell? ⟨gb109, 1, none⟩ = some (.int .i64 a0_1) := (blk_cell BK109.out 1).trans rfl; have hcz13_2 : w12.cell? ⟨gb109, 2, none⟩ = some (.bool a0_2) := (blk_cell BK109.out 2).trans rfl; have hcz13_3 : w12.cell? ⟨gb109, 3, none⟩ = some (.int .i64 a0_3) := (blk_cell BK109.out 3).trans rfl; have hcz13_4 : w12.cell? ⟨gb109, 4, none⟩ = some (.int .i64 a0_4) := (blk_cell BK109.out 4).trans rfl; have hcz13_5 : w12.cell? ⟨gb109, 5, none⟩ = some (.int .i64 a0_5) := (blk_cell BK109.out 5).trans rfl; have hcz13_6 : w12.cell? ⟨gb109, 6, none⟩ = some (.string a0_6) := (blk_cell BK109.out 6).trans rfl; have hcz13_7 : w12.cell? ⟨gb109, 7, none⟩ = some (.bool a0_7) := (blk_cell BK109.out 7).trans rfl; have hcz13_8 : w12.cell? ⟨gb109, 8, none⟩ = some (.slice A0_8 l0_8.length c0_8) := (blk_cell BK109.out 8).trans rfl; have hcz13_9 : w12.cell? ⟨gb109, 9, none⟩ = some (.slice A0_9 l0_9.length c0_9) := (blk_cell BK109.out 9).trans rfl; have hfz13_0 := blk_frozen BK109.out 0; have hfz13_1 := blk_frozen BK109.out 1; have hfz13_2 := blk_frozen BK109.out 2; have hfz13_3 := blk_frozen BK109.out 3; have hfz13_4 := blk_frozen BK109.out 4; have hfz13_5 := blk_frozen BK109.out 5; have hfz13_6 := blk_frozen BK109.out 6; have hfz13_7 := blk_frozen BK109.out 7; have hfz13_8 := blk_frozen BK109.out 8; have hfz13_9 := blk_frozen BK109.out 9)))
          go_ret2
          exact ⟨by first | rfl | (simp [errW_none, errW_some] <;> rfl) | (simp [*, errW_none, errW_some] <;> rfl), by repeat (first | (with_reducible first | exact HB.out | apply below_alloc | apply pw_below_drewN | apply below_drew1 | refine below_set ?_ GE109.out) | exact HB.out)⟩
        · rw [if_neg c11] at H
          have c11b0 : (a0_0 == 8) = false := beq_eq_false_iff_ne.mpr c11
          have c11b1 : (a0_0 != 8) = true := bne_iff_ne.mpr c11
          by_cases c14 : a0_0 = 9
          · rw [if_pos c14] at H
            have c14b0 : (a0_0 == 9) = true := beq_iff_eq.mpr c14
            have c14b1 : (a0_0 != 9) = false := bne_eq_false_iff_eq.mpr c14
            clear c14
            by_cases c15 : a0_3 < 2
            · rw [if_pos c15] at H
              have c15b0 : decide (a0_3 < 2) = true := decide_eq_true c15
              clear c15
              simp only [Option.some.injEq, Prod.mk.injEq] at H
              obtain ⟨rfl, rfl⟩ := H
              go_enter Tryz.func43, Tryz.ntmps43
              go_wp2_with (first | ((with_reducible refine gate_dst (N := 1) rfl ?_); refine box_event ?hg (N := 1) ?hd (cs := #[.int .i64 a0_0, .int .i64 a0_1, .bool a0_2, .int .i64 a0_3, .int .i64 a0_4, .int .i64 a0_5, .string a0_6, .bool a0_7, .slice A0_8 l0_8.length c0_8, .slice A0_9 l0_9.length c0_9]) (t := 32) ?hr ?_; (case hd => rfl); (case hg => rfl); (case hr => first | (go_simp; done) | (go_simp; rfl)); intro gb109 hg w16 hbox hb; have n0_ := Aside0.mk (below_step (by repeat (first | (with_reducible first | exact HB.out | apply below_alloc | apply pw_below_drewN | apply below_drew1) | exact HB.out)) hb); have n1_ := Aside0.mk (hbox); have n2_ := Aside0.mk ((by rw [hg]; exact (below_size (by repeat (first | (with_reducible first | exact HB.out | apply below_alloc | apply pw_below_drewN | apply below_drew1) | exact HB.out))) : w.heap.size ≤ gb109)); have n3_ := Aside0.mk ((by rw [hg]; exact (below_size (by repeat (first | (with_reducible first | exact HB.out | apply below_alloc | apply pw_below_drewN | apply below_drew1) | exact HB.out))) : w.heap.size ≤ gb109)); clear HB; have HB := n0_; have BK109 := n1_; have GW109 := n2_; have GE109 := n3_; clear n0_ n1_ n2_ n3_; clear hb hbox hg; have hcz17_0 : w16.cell? ⟨gb109, 0, none⟩ = some (.int .i64 a0_0) := (blk_cell BK109.out 0).trans rfl; have hcz17_1 : w16.cell? ⟨gb109, 1, none⟩ = some (.int .i64 a0_1) := (blk_cell BK109.out 1).trans rfl; have hcz17_2 : w16.cell? ⟨gb109, 2, none⟩ = some (.bool a0_2) := (blk_cell BK109.out 2).trans rfl; have hcz17_3 : w16.cell? ⟨gb109, 3, none⟩ = some (.int .i64 a0_3) := (blk_cell BK109.out 3).trans rfl; have hcz17_4 : w16.cell? ⟨gb109, 4, none⟩ = some (.int .i64 a0_4) := (blk_cell BK109.out 4).trans rfl; have hcz17_5 : w16.cell? ⟨gb109, 5, none⟩ = some (.int .i64 a0_5) := (blk_cell BK109.out 5).trans rfl; have hcz17_6 : w16.cell? ⟨gb109, 6, none⟩ = some (.string a0_6) := (blk_cell BK109.out 6).trans rfl; have hcz17_7 : w16.cell? ⟨gb109, 7, none⟩ = some (.bool a0_7) := (blk_cell BK109.out 7).trans rfl; have hcz17_8 : w16.cell? ⟨gb109, 8, none⟩ = some (.slice A0_8 l0_8.length c0_8) := (blk_cell BK109.out 8).trans rfl; have hcz17_9 : w16.cell? ⟨gb109, 9, none⟩ = some (.slice A0_9 l0_9.length c0_9) := (blk_cell BK109.out 9).trans rfl; have hfz17_0 := blk_frozen BK109.out 0; have hfz17_1 := blk_frozen BK109.out 1; have hfz17_2 := blk_frozen BK109.out 2; have hfz17_3 := blk_frozen BK109.out 3; have hfz17_4 := blk_frozen BK109.out 4; have hfz17_5 := blk_frozen BK109.out 5; have hfz17_6 := blk_frozen BK109.out 6; have hfz17_7 := blk_frozen BK109.out 7; have hfz17_8 := blk_frozen BK109.out 8; have hfz17_9 := blk_frozen BK109.out 9))
              repeat (go_quiet (first | ((with_reducible refine gate_dst (N := 1) rfl ?_); refine box_event ?hg (N := 1) ?hd (cs := #[.int .i64 a0_0, .int .i64 a0_1, .bool a0_2, .int .i64 a0_3, .int .i64 a0_4, .int .i64 a0_5, .string a0_6, .bool a0_7, .slice A0_8 l0_8.length c0_8, .slice A0_9 l0_9.length c0_9]) (t := 32) ?hr ?_; (case hd => rfl); (case hg => rfl); (case hr => first | (go_simp; done) | (go_simp; rfl)); intro gb109 hg w16 hbox hb; have n0_ := Aside0.mk (below_step (by repeat (first | (with_reducible first | exact HB.out | apply below_alloc | apply pw_below_drewN | apply below_drew1) | exact HB.out)) hb); have n1_ := Aside0.mk (hbox); have n2_ := Aside0.mk ((by rw [hg]; exact (below_size (by repeat (first | (with_reducible first | exact HB.out | apply below_alloc | apply pw_below_drewN | apply below_drew1) | exact HB.out))) : w.heap.size ≤ gb109)); have n3_ := Aside0.mk ((by rw [hg]; exact (below_size (by repeat (first | (with_reducible first | exact HB.out | apply below_alloc | apply pw_below_drewN | apply below_drew1) | exact HB.out))) : w.heap.size ≤ gb109)); clear HB; have HB := n0_; have BK109 := n1_; have GW109 := n2_; have GE109 := n3_; clear n0_ n1_ n2_ n3_; clear hb hbox hg; have hcz17_0 : w16.cell? ⟨gb109, 0, none⟩ = some (.int .i64 a0_0) := (blk_cell BK109.out 0).trans rfl; have hcz17_1 : w16.cell? ⟨gb109, 1, none⟩ = some (.int .i64 a0_1) := (blk_cell BK109.out 1).trans rfl; have hcz17_2 : w16.cell? ⟨gb109, 2, none⟩ = some (.bool a0_2) := (blk_cell BK109.out 2).trans rfl; have hcz17_3 : w16.cell? ⟨gb109, 3, none⟩ = some (.int .i64 a0_3) := (blk_cell BK109.out 3).trans rfl; have hcz17_4 : w16.cell? ⟨gb109, 4, none⟩ = some (.int .i64 a0_4) := (blk_cell BK109.out 4).trans rfl; have hcz17_5 : w16.cell? ⟨gb109, 5, none⟩ = some (.int .i64 a0_5) := (blk_cell BK109.out 5).trans rfl; have hcz17_6 : w16.cell? ⟨gb109, 6, none⟩ = some (.string a0_6) := (blk_cell BK109.out 6).trans rfl; have hcz17_7 : w16.cell? ⟨gb109, 7, none⟩ = some (.bool a0_7) := (blk_cell BK109.out 7).trans rfl; have hcz17_8 : w16.cell? ⟨gb109, 8, none⟩ = some (.slice A0_8 l0_8.length c0_8) := (blk_cell BK109.out 8).trans rfl; have hcz17_9 : w16.cell? ⟨gb109, 9, none⟩ = some (.slice A0_9 l0_9.length c0_9) := (blk_cell BK109.out 9).trans rfl; have hfz17_0 := blk_frozen BK109.out 0; have hfz17_1 := blk_frozen BK109.out 1; have hfz17_2 := blk_frozen BK109.out 2; have hfz17_3 := blk_frozen BK109.out 3; have hfz17_4 := blk_frozen BK109.out 4; have hfz17_5 := blk_frozen BK109.out 5; have hfz17_6 := blk_frozen BK109.out 6; have hfz17_7 := blk_frozen BK109.out 7; have hfz17_8 := blk_frozen BK109.out 8; have hfz17_9 := blk_frozen BK109.out 9)); try go_wp2_with (first | ((with_reducible refine gate_dst (N := 1) rfl ?_); refine box_event ?hg (N := 1) ?hd (cs := #[.int .i64 a0_0, .int .i64 a0_1, .bool a0_2, .int .i64 a0_3, .int .i64 a0_4, .int .i64 a0_5, .string a0_6, .bool a0_7, .slice A0_8 l0_8.length c0_8, .slice A0_9 l0_9.length c0_9]) (t := 32) ?hr ?_; (case hd => rfl); (case hg => rfl); (case hr => first | (go_simp; done) | (go_simp; rfl)); intro gb109 hg w16 hbox hb; have n0_ := Aside0.mk (below_step (by repeat (first | (with_reducible first | exact HB.out | apply below_alloc | apply pw_below_drewN | apply below_drew1) | exact HB.out)) hb); have n1_ := Aside0.mk (hbox); have n2_ := Aside0.mk ((by rw [hg]; exact (below_size (by repeat (first | (with_reducible first | exact HB.out | apply below_alloc | apply pw_below_drewN | apply below_drew1) | exact HB.out))) : w.heap.size ≤ gb109)); have n3_ := Aside0.mk ((by rw [hg]; exact (below_size (by repeat (first | (with_reducible first | exact HB.out | apply below_alloc | apply pw_below_drewN | apply below_drew1) | exact HB.out))) : w.heap.size ≤ gb109)); clear HB; have HB := n0_; have BK109 := n1_; have GW109 := n2_; have GE109 := n3_; clear n0_ n1_ n2_ n3_; clear hb hbox hg; have hcz17_0 : w16.cell? ⟨gb109, 0, none⟩ = some (.int .i64 a0_0) := (blk_cell BK109.out 0).trans rfl; have hcz17_1 : w16.cell? ⟨gb109, 1, none⟩ = some (.int .i64 a0_1) := (blk_cell BK109.out 1).trans rfl; have hcz17_2 : w16.cell? ⟨gb109, 2, none⟩ = some (.bool a0_2) := (blk_cell BK109.out 2).trans rfl; have hcz17_3 : w16.cell? ⟨gb109, 3, none⟩ = some (.int .i64 a0_3) := (blk_cell BK109.out 3).trans rfl; have hcz17_4 : w16.cell? ⟨gb109, 4, none⟩ = some (.int .i64 a0_4) := (blk_cell BK109.out 4).trans rfl; have hcz17_5 : w16.cell? ⟨gb109, 5, none⟩ = some (.int .i64 a0_5) := (blk_cell BK109.out 5).trans rfl; have hcz17_6 : w16.cell? ⟨gb109, 6, none⟩ = some (.string a0_6) := (blk_cell BK109.out 6).trans rfl; have hcz17_7 : w16.cell? ⟨gb109, 7, none⟩ = some (.bool a0_7) := (blk_cell BK109.out 7).trans rfl; have hcz17_8 : w16.cell? ⟨gb109, 8, none⟩ = some (.slice A0_8 l0_8.length c0_8) := (blk_cell BK109.out 8).trans rfl; have hcz17_9 : w16.cell? ⟨gb109, 9, none⟩ = some (.slice A0_9 l0_9.length c0_9) := (blk_cell BK109.out 9).trans rfl; have hfz17_0 := blk_frozen BK109.out 0; have hfz17_1 := blk_frozen BK109.out 1; have hfz17_2 := blk_frozen BK109.out 2; have hfz17_3 := blk_frozen BK109.out 3; have hfz17_4 := blk_frozen BK109.out 4; have hfz17_5 := blk_frozen BK109.out 5; have hfz17_6 := blk_frozen BK109.out 6; have hfz17_7 := blk_frozen BK109.out 7; have hfz17_8 := blk_frozen BK109.out 8; have hfz17_9 := blk_frozen BK109.out 9)))
              go_ret2
              exact ⟨by first | rfl | (simp [errW_none, errW_some] <;> rfl) | (simp [*, errW_none, errW_some] <;> rfl), by repeat (first | (with_reducible first | exact HB.out | apply below_alloc | apply pw_below_drewN | apply below_drew1 | refine below_set ?_ GE109.out) | exact HB.out)⟩
            · rw [if_neg c15] at H
              have c15b0 : decide (a0_3 < 2) = false := decide_eq_false c15
              clear c15
              simp only [Option.some.injEq, Prod.mk.injEq] at H
              obtain ⟨rfl, rfl⟩ := H
              go_enter Tryz.func43, Tryz.ntmps43
              go_wp2_with (first | ((with_reducible refine gate_dst (N := 1) rfl ?_); refine box_event ?hg (N := 1) ?hd (cs := #[.int .i64 a0_0, .int .i64 a0_1, .bool a0_2, .int .i64 a0_3, .int .i64 a0_4, .int .i64 a0_5, .string a0_6, .bool a0_7, .slice A0_8 l0_8.length c0_8, .slice A0_9 l0_9.length c0_9]) (t := 32) ?hr ?_; (case hd => rfl); (case hg => rfl); (case hr => first | (go_simp; done) | (go_simp; rfl)); intro gb109 hg w18 hbox hb; have n0_ := Aside0.mk (below_step (by repeat (first | (with_reducible first | exact HB.out | apply below_alloc | apply pw_below_drewN | apply below_drew1) | exact HB.out)) hb); have n1_ := Aside0.mk (hbox); have n2_ := Aside0.mk ((by rw [hg]; exact (below_size (by repeat (first | (with_reducible first | exact HB.out | apply below_alloc | apply pw_below_drewN | apply below_drew1) | exact HB.out))) : w.heap.size ≤ gb109)); have n3_ := Aside0.mk ((by rw [hg]; exact (below_size (by repeat (first | (with_reducible first | exact HB.out | apply below_alloc | apply pw_below_drewN | apply below_drew1) | exact HB.out))) : w.heap.size ≤ gb109)); clear HB; have HB := n0_; have BK109 := n1_; have GW109 := n2_; have GE109 := n3_; clear n0_ n1_ n2_ n3_; clear hb hbox hg; have hcz19_0 : w18.cell? ⟨gb109, 0, none⟩ = some (.int .i64 a0_0) := (blk_cell BK109.out 0).trans rfl; have hcz19_1 : w18.cell? ⟨gb109, 1, none⟩ = some (.int .i64 a0_1) := (blk_cell BK109.out 1).trans rfl; have hcz19_2 : w18.cell? ⟨gb109, 2, none⟩ = some (.bool a0_2) := (blk_cell BK109.out 2).trans rfl; have hcz19_3 : w18.cell? ⟨gb109, 3, none⟩ = some (.int .i64 a0_3) := (blk_cell BK109.out 3).trans rfl; have hcz19_4 : w18.cell? ⟨gb109, 4, none⟩ = some (.int .i64 a0_4) := (blk_cell BK109.out 4).trans rfl; have hcz19_5 : w18.cell? ⟨gb109, 5, none⟩ = some (.int .i64 a0_5) := (blk_cell BK109.out 5).trans rfl; have hcz19_6 : w18.cell? ⟨gb109, 6, none⟩ = some (.string a0_6) := (blk_cell BK109.out 6).trans rfl; have hcz19_7 : w18.cell? ⟨gb109, 7, none⟩ = some (.bool a0_7) := (blk_cell BK109.out 7).trans rfl; have hcz19_8 : w18.cell? ⟨gb109, 8, none⟩ = some (.slice A0_8 l0_8.length c0_8) := (blk_cell BK109.out 8).trans rfl; have hcz19_9 : w18.cell? ⟨gb109, 9, none⟩ = some (.slice A0_9 l0_9.length c0_9) := (blk_cell BK109.out 9).trans rfl; have hfz19_0 := blk_frozen BK109.out 0; have hfz19_1 := blk_frozen BK109.out 1; have hfz19_2 := blk_frozen BK109.out 2; have hfz19_3 := blk_frozen BK109.out 3; have hfz19_4 := blk_frozen BK109.out 4; have hfz19_5 := blk_frozen BK109.out 5; have hfz19_6 := blk_frozen BK109.out 6; have hfz19_7 := blk_frozen BK109.out 7; have hfz19_8 := blk_frozen BK109.out 8; have hfz19_9 := blk_frozen BK109.out 9))
              repeat (go_quiet (first | ((with_reducible refine gate_dst (N := 1) rfl ?_); refine box_event ?hg (N := 1) ?hd (cs := #[.int .i64 a0_0, .int .i64 a0_1, .bool a0_2, .int .i64 a0_3, .int .i64 a0_4, .int .i64 a0_5, .string a0_6, .bool a0_7, .slice A0_8 l0_8.length c0_8, .slice A0_9 l0_9.length c0_9]) (t := 32) ?hr ?_; (case hd => rfl); (case hg => rfl); (case hr => first | (go_simp; done) | (go_simp; rfl)); intro gb109 hg w18 hbox hb; have n0_ := Aside0.mk (below_step (by repeat (first | (with_reducible first | exact HB.out | apply below_alloc | apply pw_below_drewN | apply below_drew1) | exact HB.out)) hb); have n1_ := Aside0.mk (hbox); have n2_ := Aside0.mk ((by rw [hg]; exact (below_size (by repeat (first | (with_reducible first | exact HB.out | apply below_alloc | apply pw_below_drewN | apply below_drew1) | exact HB.out))) : w.heap.size ≤ gb109)); have n3_ := Aside0.mk ((by rw [hg]; exact (below_size (by repeat (first | (with_reducible first | exact HB.out | apply below_alloc | apply pw_below_drewN | apply below_drew1) | exact HB.out))) : w.heap.size ≤ gb109)); clear HB; have HB := n0_; have BK109 := n1_; have GW109 := n2_; have GE109 := n3_; clear n0_ n1_ n2_ n3_; clear hb hbox hg; have hcz19_0 : w18.cell? ⟨gb109, 0, none⟩ = some (.int .i64 a0_0) := (blk_cell BK109.out 0).trans rfl; have hcz19_1 : w18.cell? ⟨gb109, 1, none⟩ = some (.int .i64 a0_1) := (blk_cell BK109.out 1).trans rfl; have hcz19_2 : w18.cell? ⟨gb109, 2, none⟩ = some (.bool a0_2) := (blk_cell BK109.out 2).trans rfl; have hcz19_3 : w18.cell? ⟨gb109, 3, none⟩ = some (.int .i64 a0_3) := (blk_cell BK109.out 3).trans rfl; have hcz19_4 : w18.cell? ⟨gb109, 4, none⟩ = some (.int .i64 a0_4) := (blk_cell BK109.out 4).trans rfl; have hcz19_5 : w18.cell? ⟨gb109, 5, none⟩ = some (.int .i64 a0_5) := (blk_cell BK109.out 5).trans rfl; have hcz19_6 : w18.cell? ⟨gb109, 6, none⟩ = some (.string a0_6) := (blk_cell BK109.out 6).trans rfl; have hcz19_7 : w18.cell? ⟨gb109, 7, none⟩ = some (.bool a0_7) := (blk_cell BK109.out 7).trans rfl; have hcz19_8 : w18.cell? ⟨gb109, 8, none⟩ = some (.slice A0_8 l0_8.length c0_8) := (blk_cell BK109.out 8).trans rfl; have hcz19_9 : w18.cell? ⟨gb109, 9, none⟩ = some (.slice A0_9 l0_9.length c0_9) := (blk_cell BK109.out 9).trans rfl; have hfz19_0 := blk_frozen BK109.out 0; have hfz19_1 := blk_frozen BK109.out 1; have hfz19_2 := blk_frozen BK109.out 2; have hfz19_3 := blk_frozen BK109.out 3; have hfz19_4 := blk_frozen BK109.out 4; have hfz19_5 := blk_frozen BK109.out 5; have hfz19_6 := blk_frozen BK109.out 6; have hfz19_7 := blk_frozen BK109.out 7; have hfz19_8 := blk_frozen BK109.out 8; have hfz19_9 := blk_frozen BK109.out 9)); try go_wp2_with (first | ((with_reducible refine gate_dst (N := 1) rfl ?_); refine box_event ?hg (N := 1) ?hd (cs := #[.int .i64 a0_0, .int .i64 a0_1, .bool a0_2, .int .i64 a0_3, .int .i64 a0_4, .int .i64 a0_5, .string a0_6, .bool a0_7, .slice A0_8 l0_8.length c0_8, .slice A0_9 l0_9.length c0_9]) (t := 32) ?hr ?_; (case hd => rfl); (case hg => rfl); (case hr => first | (go_simp; done) | (go_simp; rfl)); intro gb109 hg w18 hbox hb; have n0_ := Aside0.mk (below_step (by repeat (first | (with_reducible first | exact HB.out | apply below_alloc | apply pw_below_drewN | apply below_drew1) | exact HB.out)) hb); have n1_ := Aside0.mk (hbox); have n2_ := Aside0.mk ((by rw [hg]; exact (below_size (by repeat (first | (with_reducible first | exact HB.out | apply below_alloc | apply pw_below_drewN | apply below_drew1) | exact HB.out))) : w.heap.size ≤ gb109)); have n3_ := Aside0.mk ((by rw [hg]; exact (below_size (by repeat (first | (with_reducible first | exact HB.out | apply below_alloc | apply pw_below_drewN | apply below_drew1) | exact HB.out))) : w.heap.size ≤ gb109)); clear HB; have HB := n0_; have BK109 := n1_; have GW109 := n2_; have GE109 := n3_; clear n0_ n1_ n2_ n3_; clear hb hbox hg; have hcz19_0 : w18.cell? ⟨gb109, 0, none⟩ = some (.int .i64 a0_0) := (blk_cell BK109.out 0).trans rfl; have hcz19_1 : w18.cell? ⟨gb109, 1, none⟩ = some (.int .i64 a0_1) := (blk_cell BK109.out 1).trans rfl; have hcz19_2 : w18.cell? ⟨gb109, 2, none⟩ = some (.bool a0_2) := (blk_cell BK109.out 2).trans rfl; have hcz19_3 : w18.cell? ⟨gb109, 3, none⟩ = some (.int .i64 a0_3) := (blk_cell BK109.out 3).trans rfl; have hcz19_4 : w18.cell? ⟨gb109, 4, none⟩ = some (.int .i64 a0_4) := (blk_cell BK109.out 4).trans rfl; have hcz19_5 : w18.cell? ⟨gb109, 5, none⟩ = some (.int .i64 a0_5) := (blk_cell BK109.out 5).trans rfl; have hcz19_6 : w18.cell? ⟨gb109, 6, none⟩ = some (.string a0_6) := (blk_cell BK109.out 6).trans rfl; have hcz19_7 : w18.cell? ⟨gb109, 7, none⟩ = some (.bool a0_7) := (blk_cell BK109.out 7).trans rfl; have hcz19_8 : w18.cell? ⟨gb109, 8, none⟩ = some (.slice A0_8 l0_8.length c0_8) := (blk_cell BK109.out 8).trans rfl; have hcz19_9 : w18.cell? ⟨gb109, 9, none⟩ = some (.slice A0_9 l0_9.length c0_9) := (blk_cell BK109.out 9).trans rfl; have hfz19_0 := blk_frozen BK109.out 0; have hfz19_1 := blk_frozen BK109.out 1; have hfz19_2 := blk_frozen BK109.out 2; have hfz19_3 := blk_frozen BK109.out 3; have hfz19_4 := blk_frozen BK109.out 4; have hfz19_5 := blk_frozen BK109.out 5; have hfz19_6 := blk_frozen BK109.out 6; have hfz19_7 := blk_frozen BK109.out 7; have hfz19_8 := blk_frozen BK109.out 8; have hfz19_9 := blk_frozen BK109.out 9)))
              go_ret2
              exact ⟨by first | rfl | (simp [errW_none, errW_some] <;> rfl) | (simp [*, errW_none, errW_some] <;> rfl), by repeat (first | (with_reducible first | exact HB.out | apply below_alloc | apply pw_below_drewN | apply below_drew1 | refine below_set ?_ GE109.out) | exact HB.out)⟩
          · rw [if_neg c14] at H
            have c14b0 : (a0_0 == 9) = false := beq_eq_false_iff_ne.mpr c14
            have c14b1 : (a0_0 != 9) = true := bne_iff_ne.mpr c14
            have HC20 := Aside0.mk H
            clear H
            go_enter Tryz.func43, Tryz.ntmps43
            go_upto_if 29 with (first | ((with_reducible refine gate_dst (N := 1) rfl ?_); refine box_event ?hg (N := 1) ?hd (cs := #[.int .i64 a0_0, .int .i64 a0_1, .bool a0_2, .int .i64 a0_3, .int .i64 a0_4, .int .i64 a0_5, .string a0_6, .bool a0_7, .slice A0_8 l0_8.length c0_8, .slice A0_9 l0_9.length c0_9]) (t := 32) ?hr ?_; (case hd => rfl); (case hg => rfl); (case hr => first | (go_simp; done) | (go_simp; rfl)); intro gb109 hg w21 hbox hb; have n0_ := Aside0.mk (below_step (by repeat (first | (with_reducible first | exact HB.out | apply below_alloc | apply pw_below_drewN | apply below_drew1) | exact HB.out)) hb); have n1_ := Aside0.mk (hbox); have n2_ := Aside0.mk ((by rw [hg]; exact (below_size (by repeat (first | (with_reducible first | exact HB.out | apply below_alloc | apply pw_below_drewN | apply below_drew1) | exact HB.out))) : w.heap.size ≤ gb109)); have n3_ := Aside0.mk ((by rw [hg]; exact (below_size (by repeat (first | (with_reducible first | exact HB.out | apply below_alloc | apply pw_below_drewN | apply below_drew1) | exact HB.out))) : w.heap.size ≤ gb109)); clear HB; have HB := n0_; have BK109 := n1_; have GW109 := n2_; have GE109 := n3_; clear n0_ n1_ n2_ n3_; clear hb hbox hg; have hcz22_0 : w21.cell? ⟨gb109, 0, none⟩ = some (.int .i64 a0_0) := (blk_cell BK109.out 0).trans rfl; have hcz22_1 : w21.cell? ⟨gb109, 1, none⟩ = some (.int .i64 a0_1) := (blk_cell BK109.out 1).trans rfl; have hcz22_2 : w21.cell? ⟨gb109, 2, none⟩ = some (.bool a0_2) := (blk_cell BK109.out 2).trans rfl; have hcz22_3 : w21.cell? ⟨gb109, 3, none⟩ = some (.int .i64 a0_3) := (blk_cell BK109.out 3).trans rfl; have hcz22_4 : w21.cell? ⟨gb109, 4, none⟩ = some (.int .i64 a0_4) := (blk_cell BK109.out 4).trans rfl; have hcz22_5 : w21.cell? ⟨gb109, 5, none⟩ = some (.int .i64 a0_5) := (blk_cell BK109.out 5).trans rfl; have hcz22_6 : w21.cell? ⟨gb109, 6, none⟩ = some (.string a0_6) := (blk_cell BK109.out 6).trans rfl; have hcz22_7 : w21.cell? ⟨gb109, 7, none⟩ = some (.bool a0_7) := (blk_cell BK109.out 7).trans rfl; have hcz22_8 : w21.cell? ⟨gb109, 8, none⟩ = some (.slice A0_8 l0_8.length c0_8) := (blk_cell BK109.out 8).trans rfl; have hcz22_9 : w21.cell? ⟨gb109, 9, none⟩ = some (.slice A0_9 l0_9.length c0_9) := (blk_cell BK109.out 9).trans rfl; have hfz22_0 := blk_frozen BK109.out 0; have hfz22_1 := blk_frozen BK109.out 1; have hfz22_2 := blk_frozen BK109.out 2; have hfz22_3 := blk_frozen BK109.out 3; have hfz22_4 := blk_frozen BK109.out 4; have hfz22_5 := blk_frozen BK109.out 5; have hfz22_6 := blk_frozen BK109.out 6; have hfz22_7 := blk_frozen BK109.out 7; have hfz22_8 := blk_frozen BK109.out 8; have hfz22_9 := blk_frozen BK109.out 9))
            repeat (go_quiet (first | ((with_reducible refine gate_dst (N := 1) rfl ?_); refine box_event ?hg (N := 1) ?hd (cs := #[.int .i64 a0_0, .int .i64 a0_1, .bool a0_2, .int .i64 a0_3, .int .i64 a0_4, .int .i64 a0_5, .string a0_6, .bool a0_7, .slice A0_8 l0_8.length c0_8, .slice A0_9 l0_9.length c0_9]) (t := 32) ?hr ?_; (case hd => rfl); (case hg => rfl); (case hr => first | (go_simp; done) | (go_simp; rfl)); intro gb109 hg w21 hbox hb; have n0_ := Aside0.mk (below_step (by repeat (first | (with_reducible first | exact HB.out | apply below_alloc | apply pw_below_drewN | apply below_drew1) | exact HB.out)) hb); have n1_ := Aside0.mk (hbox); have n2_ := Aside0.mk ((by rw [hg]; exact (below_size (by repeat (first | (with_reducible first | exact HB.out | apply below_alloc | apply pw_below_drewN | apply below_drew1) | exact HB.out))) : w.heap.size ≤ gb109)); have n3_ := Aside0.mk ((by rw [hg]; exact (below_size (by repeat (first | (with_reducible first | exact HB.out | apply below_alloc | apply pw_below_drewN | apply below_drew1) | exact HB.out))) : w.heap.size ≤ gb109)); clear HB; have HB := n0_; have BK109 := n1_; have GW109 := n2_; have GE109 := n3_; clear n0_ n1_ n2_ n3_; clear hb hbox hg; have hcz22_0 : w21.cell? ⟨gb109, 0, none⟩ = some (.int .i64 a0_0) := (blk_cell BK109.out 0).trans rfl; have hcz22_1 : w21.cell? ⟨gb109, 1, none⟩ = some (.int .i64 a0_1) := (blk_cell BK109.out 1).trans rfl; have hcz22_2 : w21.cell? ⟨gb109, 2, none⟩ = some (.bool a0_2) := (blk_cell BK109.out 2).trans rfl; have hcz22_3 : w21.cell? ⟨gb109, 3, none⟩ = some (.int .i64 a0_3) := (blk_cell BK109.out 3).trans rfl; have hcz22_4 : w21.cell? ⟨gb109, 4, none⟩ = some (.int .i64 a0_4) := (blk_cell BK109.out 4).trans rfl; have hcz22_5 : w21.cell? ⟨gb109, 5, none⟩ = some (.int .i64 a0_5) := (blk_cell BK109.out 5).trans rfl; have hcz22_6 : w21.cell? ⟨gb109, 6, none⟩ = some (.string a0_6) := (blk_cell BK109.out 6).trans rfl; have hcz22_7 : w21.cell? ⟨gb109, 7, none⟩ = some (.bool a0_7) := (blk_cell BK109.out 7).trans rfl; have hcz22_8 : w21.cell? ⟨gb109, 8, none⟩ = some (.slice A0_8 l0_8.length c0_8) := (blk_cell BK109.out 8).trans rfl; have hcz22_9 : w21.cell? ⟨gb109, 9, none⟩ = some (.slice A0_9 l0_9.length c0_9) := (blk_cell BK109.out 9).trans rfl; have hfz22_0 := blk_frozen BK109.out 0; have hfz22_1 := blk_frozen BK109.out 1; have hfz22_2 := blk_frozen BK109.out 2; have hfz22_3 := blk_frozen BK109.out 3; have hfz22_4 := blk_frozen BK109.out 4; have hfz22_5 := blk_frozen BK109.out 5; have hfz22_6 := blk_frozen BK109.out 6; have hfz22_7 := blk_frozen BK109.out 7; have hfz22_8 := blk_frozen BK109.out 8; have hfz22_9 := blk_frozen BK109.out 9)); go_upto_if 29 with (first | ((with_reducible refine gate_dst (N := 1) rfl ?_); refine box_event ?hg (N := 1) ?hd (cs := #[.int .i64 a0_0, .int .i64 a0_1, .bool a0_2, .int .i64 a0_3, .int .i64 a0_4, .int .i64 a0_5, .string a0_6, .bool a0_7, .slice A0_8 l0_8.length c0_8, .slice A0_9 l0_9.length c0_9]) (t := 32) ?hr ?_; (case hd => rfl); (case hg => rfl); (case hr => first | (go_simp; done) | (go_simp; rfl)); intro gb109 hg w21 hbox hb; have n0_ := Aside0.mk (below_step (by repeat (first | (with_reducible first | exact HB.out | apply below_alloc | apply pw_below_drewN | apply below_drew1) | exact HB.out)) hb); have n1_ := Aside0.mk (hbox); have n2_ := Aside0.mk ((by rw [hg]; exact (below_size (by repeat (first | (with_reducible first | exact HB.out | apply below_alloc | apply pw_below_drewN | apply below_drew1) | exact HB.out))) : w.heap.size ≤ gb109)); have n3_ := Aside0.mk ((by rw [hg]; exact (below_size (by repeat (first | (with_reducible first | exact HB.out | apply below_alloc | apply pw_below_drewN | apply below_drew1) | exact HB.out))) : w.heap.size ≤ gb109)); clear HB; have HB := n0_; have BK109 := n1_; have GW109 := n2_; have GE109 := n3_; clear n0_ n1_ n2_ n3_; clear hb hbox hg; have hcz22_0 : w21.cell? ⟨gb109, 0, none⟩ = some (.int .i64 a0_0) := (blk_cell BK109.out 0).trans rfl; have hcz22_1 : w21.cell? ⟨gb109, 1, none⟩ = some (.int .i64 a0_1) := (blk_cell BK109.out 1).trans rfl; have hcz22_2 : w21.cell? ⟨gb109, 2, none⟩ = some (.bool a0_2) := (blk_cell BK109.out 2).trans rfl; have hcz22_3 : w21.cell? ⟨gb109, 3, none⟩ = some (.int .i64 a0_3) := (blk_cell BK109.out 3).trans rfl; have hcz22_4 : w21.cell? ⟨gb109, 4, none⟩ = some (.int .i64 a0_4) := (blk_cell BK109.out 4).trans rfl; have hcz22_5 : w21.cell? ⟨gb109, 5, none⟩ = some (.int .i64 a0_5) := (blk_cell BK109.out 5).trans rfl; have hcz22_6 : w21.cell? ⟨gb109, 6, none⟩ = some (.string a0_6) := (blk_cell BK109.out 6).trans rfl; have hcz22_7 : w21.cell? ⟨gb109, 7, none⟩ = some (.bool a0_7) := (blk_cell BK109.out 7).trans rfl; have hcz22_8 : w21.cell? ⟨gb109, 8, none⟩ = some (.slice A0_8 l0_8.length c0_8) := (blk_cell BK109.out 8).trans rfl; have hcz22_9 : w21.cell? ⟨gb109, 9, none⟩ = some (.slice A0_9 l0_9.length c0_9) := (blk_cell BK109.out 9).trans rfl; have hfz22_0 := blk_frozen BK109.out 0; have hfz22_1 := blk_frozen BK109.out 1; have hfz22_2 := blk_frozen BK109.out 2; have hfz22_3 := blk_frozen BK109.out 3; have hfz22_4 := blk_frozen BK109.out 4; have hfz22_5 := blk_frozen BK109.out 5; have hfz22_6 := blk_frozen BK109.out 6; have hfz22_7 := blk_frozen BK109.out 7; have hfz22_8 := blk_frozen BK109.out 8; have hfz22_9 := blk_frozen BK109.out 9)))
            (try simp only [Act.put, List.setIfInBounds_toArray, List.set_cons_zero, List.set_cons_succ])
            go_cut [29] (fun v29 wc => ∃ (kq : Nat) (x29_19 : Bool), v29 = .bool x29_19 ∧ Aside0 (spec_OneBits.j0 kq a0_0 x29_19 a0_0 a0_1 a0_2 a0_3 a0_4 a0_5 a0_6 a0_7 l0_8 l0_9 = some (r1, r2)) ∧ Aside0 (kq ≤ k) ∧ Aside0 (wc.heap[gb109]? = some (.cells #[.int .i64 a0_0, .int .i64 a0_1, .bool a0_2, .int .i64 a0_3, .int .i64 a0_4, .int .i64 a0_5, .string a0_6, .bool a0_7, (.slice A0_8 l0_8.length c0_8), (.slice A0_9 l0_9.length c0_9)] 32 (0, 0))) ∧ Aside0 (Below w.heap.size w wc))
            case first =>
              have H := HC20.out
              clear HC20
              by_cases c23 : a0_0 = 10
              · rw [if_pos c23] at H
                have c23b0 : (a0_0 == 10) = true := beq_iff_eq.mpr c23
                have c23b1 : (a0_0 != 10) = false := bne_eq_false_iff_eq.mpr c23
                clear c23
                (first | rw [c23b0] | (simp only [i64_w, i32_w]; rw [c23b0]) | skip)
                have H' := Aside0.mk H
                clear H
                go_wp2
                repeat (go_quiet (fail); try go_wp2)
                go_meet
                case rel => exact ⟨_, ((a0_0 == 10)), (by first | rfl | (simp; done) | (simp [*]; done)), H', ⟨by first | omega | exact Nat.le_refl _⟩, ⟨by (with_reducible repeat (first | refine blk_drewN ?_ _ | refine blk_drew ?_ | refine blk_alloc ?_ _)); exact BK109.out⟩, ⟨by repeat (first | (with_reducible first | exact HB.out | apply below_alloc | apply pw_below_drewN | apply below_drew1 | refine below_set ?_ GE109.out) | exact HB.out)⟩⟩
              · rw [if_neg c23] at H
                have c23b0 : (a0_0 == 10) = false := beq_eq_false_iff_ne.mpr c23
                have c23b1 : (a0_0 != 10) = true := bne_iff_ne.mpr c23
                (first | rw [c23b0] | (simp only [i64_w, i32_w]; rw [c23b0]) | skip)
                have H' := Aside0.mk H
                clear H
                go_wp2
                repeat (go_quiet (fail); try go_wp2)
                go_meet
                case rel => exact ⟨_, ((a0_0 == 18)), (by first | rfl | (simp; done) | (simp [*]; done)), H', ⟨by first | omega | exact Nat.le_refl _⟩, ⟨by (with_reducible repeat (first | refine blk_drewN ?_ _ | refine blk_drew ?_ | refine blk_alloc ?_ _)); exact BK109.out⟩, ⟨by repeat (first | (with_reducible first | exact HB.out | apply below_alloc | apply pw_below_drewN | apply below_drew1 | refine below_set ?_ GE109.out) | exact HB.out)⟩⟩
            case rest =>
              clear HC20
              try clear c1
              try clear c2
              try clear c2b0
              try clear c2b1
              try clear p2
              try clear c4
              try clear c5
              try clear c5b0
              try clear c5b1
              try clear p6
              try clear c8
              try clear c8b0
              try clear c8b1
              try clear c11
              try clear c11b0
              try clear c11b1
              try clear c14
              try clear c14b0
              try clear c14b1
              try clear c15
              try clear c15b0
              try clear c23
              try clear c23b0
              try clear c23b1
              try clear hcz10_0
              try clear hcz10_1
              try clear hcz10_2
              try clear hcz10_3
              try clear hcz10_4
              try clear hcz10_5
              try clear hcz10_6
              try clear hcz10_7
              try clear hcz10_8
              try clear hcz10_9
              try clear hcz13_0
              try clear hcz13_1
              try clear hcz13_2
              try clear hcz13_3
              try clear hcz13_4
              try clear hcz13_5
              try clear hcz13_6
              try clear hcz13_7
              try clear hcz13_8
              try clear hcz13_9
              try clear hcz17_0
              try clear hcz17_1
              try clear hcz17_2
              try clear hcz17_3
              try clear hcz17_4
              try clear hcz17_5
              try clear hcz17_6
              try clear hcz17_7
              try clear hcz17_8
              try clear hcz17_9
              try clear hcz19_0
              try clear hcz19_1
              try clear hcz19_2
              try clear hcz19_3
              try clear hcz19_4
              try clear hcz19_5
              try clear hcz19_6
              try clear hcz19_7
              try clear hcz19_8
              try clear hcz19_9
              try clear hcz22_0
              try clear hcz22_1
              try clear hcz22_2
              try clear hcz22_3
              try clear hcz22_4
              try clear hcz22_5
              try clear hcz22_6
              try clear hcz22_7
              try clear hcz22_8
              try clear hcz22_9
              try clear hcz4_0
              try clear hcz4_1
              try clear hcz4_2
              try clear hcz4_3
              try clear hcz4_4
              try clear hcz4_5
              try clear hcz4_6
              try clear hcz4_7
              try clear hcz4_8
              try clear hcz4_9
              try clear hcz7_0
              try clear hcz7_1
              try clear hcz7_2
              try clear hcz7_3
              try clear hcz7_4
              try clear hcz7_5
              try clear hcz7_6
              try clear hcz7_7
              try clear hcz7_8
              try clear hcz7_9
              try clear hfz10_0
              try clear hfz10_1
              try clear hfz10_2
              try clear hfz10_3
              try clear hfz10_4
              try clear hfz10_5
              try clear hfz10_6
              try clear hfz10_7
              try clear hfz10_8
              try clear hfz10_9
              try clear hfz13_0
              try clear hfz13_1
              try clear hfz13_2
              try clear hfz13_3
              try clear hfz13_4
              try clear hfz13_5
              try clear hfz13_6
              try clear hfz13_7
              try clear hfz13_8
              try clear hfz13_9
              try clear hfz17_0
              try clear hfz17_1
              try clear hfz17_2
              try clear hfz17_3
              try clear hfz17_4
              try clear hfz17_5
              try clear hfz17_6
              try clear hfz17_7
              try clear hfz17_8
              try clear hfz17_9
              try clear hfz19_0
              try clear hfz19_1
              try clear hfz19_2
              try clear hfz19_3
              try clear hfz19_4
              try clear hfz19_5
              try clear hfz19_6
              try clear hfz19_7
              try clear hfz19_8
              try clear hfz19_9
              try clear hfz22_0
              try clear hfz22_1
              try clear hfz22_2
              try clear hfz22_3
              try clear hfz22_4
              try clear hfz22_5
              try clear hfz22_6
              try clear hfz22_7
              try clear hfz22_8
              try clear hfz22_9
              try clear hfz4_0
              try clear hfz4_1
              try clear hfz4_2
              try clear hfz4_3
              try clear hfz4_4
              try clear hfz4_5
              try clear hfz4_6
              try clear hfz4_7
              try clear hfz4_8
              try clear hfz4_9
              try clear hfz7_0
              try clear hfz7_1
              try clear hfz7_2
              try clear hfz7_3
              try clear hfz7_4
              try clear hfz7_5
              try clear hfz7_6
              try clear hfz7_7
              try clear hfz7_8
              try clear hfz7_9
              obtain ⟨kq, x29_19, rfl, HA, HJ19, BK109, HB⟩ := hcut
              cases kq with
              | zero => exact absurd HA.out (by simp [spec_OneBits.j0])
              | succ kj19 =>
                have H := HA.out
                clear HA
                simp only [spec_OneBits.j0] at H
                by_cases c24 : x29_19 = true
                · subst c24
                  have H1 : (some (64, true)) = some (r1, r2) := by rw [if_pos rfl] at H; exact H
                  clear H
                  have H := H1
                  clear H1
                  simp only [Option.some.injEq, Prod.mk.injEq] at H
                  obtain ⟨rfl, rfl⟩ := H
                  go_wp2
                  repeat (go_quiet (fail); try go_wp2)
                  go_ret2
                  exact ⟨by first | rfl | (simp [errW_none, errW_some] <;> rfl) | (simp [*, errW_none, errW_some] <;> rfl), by repeat (first | (with_reducible first | exact HB.out | apply below_alloc | apply pw_below_drewN | apply below_drew1 | refine below_set ?_ GE109.out) | exact HB.out)⟩
                · replace c24 := Bool.eq_false_iff.mpr c24
                  subst c24
                  have H1 : (if a0_0 = 11 then ((some (([32, 64, 0] : List Int) : List Int)).bind fun y110 => (if 0 ≤ a0_3 then (if a0_3 < (y110.length : Int) then (some (rd y110 a0_3, true)) else (none)) else (none))) else (some (0, false))) = some (r1, r2) := by rw [if_neg (show ¬ (false = true) by decide)] at H; exact H
                  clear H
                  have H := H1
                  clear H1
                  by_cases c25 : a0_0 = 11
                  · rw [if_pos c25] at H
                    have c25b0 : (a0_0 == 11) = true := beq_iff_eq.mpr c25
                    have c25b1 : (a0_0 != 11) = false := bne_eq_false_iff_eq.mpr c25
                    clear c25
                    obtain ⟨y110, hy110⟩ : ∃ y_ : List Int, y_ = (([32, 64, 0] : List Int)) := ⟨_, rfl⟩
                    replace H : (if 0 ≤ a0_3 then (if a0_3 < (y110.length : Int) then (some (rd y110 a0_3, true)) else (none)) else (none)) = some (r1, r2) := by first | (rw [hy110]; with_reducible exact H) | (have H2_ := (Option.bind_some _ _).symm.trans H; rw [hy110]; with_reducible exact H2_) | (have H2_ := (Option.bind_some _ _).symm.trans H; with_reducible exact H2_) | with_reducible exact H | (rw [hy110]; exact H) | exact H
                    have Ny110 := Aside0.mk hy110
                    clear hy110
                    by_cases c26 : 0 ≤ a0_3
                    · rw [if_pos c26] at H
                      have c26b0 : decide (0 ≤ a0_3) = true := decide_eq_true c26
                      clear c26
                      by_cases c27 : a0_3 < (y110.length : Int)
                      · rw [if_pos c27] at H
                        have c27b0 : decide (a0_3 < (y110.length : Int)) = true := decide_eq_true c27
                        clear c27
                        simp only [Option.some.injEq, Prod.mk.injEq] at H
                        obtain ⟨rfl, rfl⟩ := H
                        go_wp2_with (first | ((with_reducible refine gate_dst (N := 34) rfl ?_); refine Kd.R_lit (Kd.int .i64) _ 3 ?hg (N := 34) ?hd (xs := ([32, 64, 0] : List Int)) (inner := [.int .i64 32, .int .i64 64, .int .i64 0]) (ok := fun _ => True) (okp := fun _ => True) ?hr ?hp (fun _ hk => hk) trivial (Below.refl _ _) (Nat.le_refl _) (by simp) ?_; (case hd => rfl); (case hg => rfl); (case hr => first | (go_simp; done) | (go_simp; rfl)); (case hp => exact (Reps.one (show Kd.M (Kd.int .i64) _ _ _ 32 [.int .i64 32] from rfl) (Reps.one (show Kd.M (Kd.int .i64) _ _ _ 64 [.int .i64 64] from rfl) (Reps.one (show Kd.M (Kd.int .i64) _ _ _ 0 [.int .i64 0] from rfl) (Reps.none _ _))))); intro v111 w28 ho29 hb hg_ hnew_; clear hg_ hnew_; (first | rw [← Ny110.out] at ho29 | (simp only [Int.reduceToNat] at ho29; rw [← Ny110.out] at ho29)); have n0_ := Aside0.mk (Kd.R_lower ho29 (below_size (by repeat (first | (with_reducible first | exact HB.out | apply below_alloc | apply pw_below_drewN | apply below_drew1 | refine below_set ?_ GE109.out) | exact HB.out)))); have n1_ := Aside0.mk (blk_below (g := gb109) (o := .cells #[.int .i64 a0_0, .int .i64 a0_1, .bool a0_2, .int .i64 a0_3, .int .i64 a0_4, .int .i64 a0_5, .string a0_6, .bool a0_7, .slice A0_8 l0_8.length c0_8, .slice A0_9 l0_9.length c0_9] 32 (0, 0)) (by (with_reducible repeat (first | refine blk_drewN ?_ _ | refine blk_drew ?_ | refine blk_alloc ?_ _)); exact BK109.out) hb); have n2_ := Aside0.mk (below_step (by repeat (first | (with_reducible first | exact HB.out | apply below_alloc | apply pw_below_drewN | apply below_drew1 | refine below_set ?_ GE109.out) | exact HB.out)) hb); clear BK109; clear HB; have HO112 := n0_; have BK109 := n1_; have HB := n2_; clear n0_ n1_ n2_; clear hb ho29; have hcz30_0 : w28.cell? ⟨gb109, 0, none⟩ = some (.int .i64 a0_0) := (blk_cell BK109.out 0).trans rfl; have hcz30_1 : w28.cell? ⟨gb109, 1, none⟩ = some (.int .i64 a0_1) := (blk_cell BK109.out 1).trans rfl; have hcz30_2 : w28.cell? ⟨gb109, 2, none⟩ = some (.bool a0_2) := (blk_cell BK109.out 2).trans rfl; have hcz30_3 : w28.cell? ⟨gb109, 3, none⟩ = some (.int .i64 a0_3) := (blk_cell BK109.out 3).trans rfl; have hcz30_4 : w28.cell? ⟨gb109, 4, none⟩ = some (.int .i64 a0_4) := (blk_cell BK109.out 4).trans rfl; have hcz30_5 : w28.cell? ⟨gb109, 5, none⟩ = some (.int .i64 a0_5) := (blk_cell BK109.out 5).trans rfl; have hcz30_6 : w28.cell? ⟨gb109, 6, none⟩ = some (.string a0_6) := (blk_cell BK109.out 6).trans rfl; have hcz30_7 : w28.cell? ⟨gb109, 7, none⟩ = some (.bool a0_7) := (blk_cell BK109.out 7).trans rfl; have hcz30_8 : w28.cell? ⟨gb109, 8, none⟩ = some (.slice A0_8 l0_8.length c0_8) := (blk_cell BK109.out 8).trans rfl; have hcz30_9 : w28.cell? ⟨gb109, 9, none⟩ = some (.slice A0_9 l0_9.length c0_9) := (blk_cell BK109.out 9).trans rfl; have hfz30_0 := blk_frozen BK109.out 0; have hfz30_1 := blk_frozen BK109.out 1; have hfz30_2 := blk_frozen BK109.out 2; have hfz30_3 := blk_frozen BK109.out 3; have hfz30_4 := blk_frozen BK109.out 4; have hfz30_5 := blk_frozen BK109.out 5; have hfz30_6 := blk_frozen BK109.out 6; have hfz30_7 := blk_frozen BK109.out 7; have hfz30_8 := blk_frozen BK109.out 8; have hfz30_9 := blk_frozen BK109.out 9; obtain ⟨Ao31, co31, eo31⟩ := Kd.R_slice HO112.out; subst eo31; have p113 : 0 ≤ (a0_3 : Int) := of_decide_eq_true (by first | (with_reducible assumption) | assumption); have q113 : a0_3 < (y110.length : Int) := of_decide_eq_true (by first | (with_reducible assumption) | assumption); obtain ⟨ad113, e113, hx113_0⟩ := Kd.at_int (Kd.R_reads' HO112.out).2.2 a0_3 p113 q113; cases e113; replace p113 := eq_true p113; replace q113 := eq_true q113))
                        repeat (go_quiet (first | ((with_reducible refine gate_dst (N := 34) rfl ?_); refine Kd.R_lit (Kd.int .i64) _ 3 ?hg (N := 34) ?hd (xs := ([32, 64, 0] : List Int)) (inner := [.int .i64 32, .int .i64 64, .int .i64 0]) (ok := fun _ => True) (okp := fun _ => True) ?hr ?hp (fun _ hk => hk) trivial (Below.refl _ _) (Nat.le_refl _) (by simp) ?_; (case hd => rfl); (case hg => rfl); (case hr => first | (go_simp; done) | (go_simp; rfl)); (case hp => exact (Reps.one (show Kd.M (Kd.int .i64) _ _ _ 32 [.int .i64 32] from rfl) (Reps.one (show Kd.M (Kd.int .i64) _ _ _ 64 [.int .i64 64] from rfl) (Reps.one (show Kd.M (Kd.int .i64) _ _ _ 0 [.int .i64 0] from rfl) (Reps.none _ _))))); intro v111 w28 ho29 hb hg_ hnew_; clear hg_ hnew_; (first | rw [← Ny110.out] at ho29 | (simp only [Int.reduceToNat] at ho29; rw [← Ny110.out] at ho29)); have n0_ := Aside0.mk (Kd.R_lower ho29 (below_size (by repeat (first | (with_reducible first | exact HB.out | apply below_alloc | apply pw_below_drewN | apply below_drew1 | refine below_set ?_ GE109.out) | exact HB.out)))); have n1_ := Aside0.mk (blk_below (g := gb109) (o := .cells #[.int .i64 a0_0, .int .i64 a0_1, .bool a0_2, .int .i64 a0_3, .int .i64 a0_4, .int .i64 a0_5, .string a0_6, .bool a0_7, .slice A0_8 l0_8.length c0_8, .slice A0_9 l0_9.length c0_9] 32 (0, 0)) (by (with_reducible repeat (first | refine blk_drewN ?_ _ | refine blk_drew ?_ | refine blk_alloc ?_ _)); exact BK109.out) hb); have n2_ := Aside0.mk (below_step (by repeat (first | (with_reducible first | exact HB.out | apply below_alloc | apply pw_below_drewN | apply below_drew1 | refine below_set ?_ GE109.out) | exact HB.out)) hb); clear BK109; clear HB; have HO112 := n0_; have BK109 := n1_; have HB := n2_; clear n0_ n1_ n2_; clear hb ho29; have hcz30_0 : w28.cell? ⟨gb109, 0, none⟩ = some (.int .i64 a0_0) := (blk_cell BK109.out 0).trans rfl; have hcz30_1 : w28.cell? ⟨gb109, 1, none⟩ = some (.int .i64 a0_1) := (blk_cell BK109.out 1).trans rfl; have hcz30_2 : w28.cell? ⟨gb109, 2, none⟩ = some (.bool a0_2) := (blk_cell BK109.out 2).trans rfl; have hcz30_3 : w28.cell? ⟨gb109, 3, none⟩ = some (.int .i64 a0_3) := (blk_cell BK109.out 3).trans rfl; have hcz30_4 : w28.cell? ⟨gb109, 4, none⟩ = some (.int .i64 a0_4) := (blk_cell BK109.out 4).trans rfl; have hcz30_5 : w28.cell? ⟨gb109, 5, none⟩ = some (.int .i64 a0_5) := (blk_cell BK109.out 5).trans rfl; have hcz30_6 : w28.cell? ⟨gb109, 6, none⟩ = some (.string a0_6) := (blk_cell BK109.out 6).trans rfl; have hcz30_7 : w28.cell? ⟨gb109, 7, none⟩ = some (.bool a0_7) := (blk_cell BK109.out 7).trans rfl; have hcz30_8 : w28.cell? ⟨gb109, 8, none⟩ = some (.slice A0_8 l0_8.length c0_8) := (blk_cell BK109.out 8).trans rfl; have hcz30_9 : w28.cell? ⟨gb109, 9, none⟩ = some (.slice A0_9 l0_9.length c0_9) := (blk_cell BK109.out 9).trans rfl; have hfz30_0 := blk_frozen BK109.out 0; have hfz30_1 := blk_frozen BK109.out 1; have hfz30_2 := blk_frozen BK109.out 2; have hfz30_3 := blk_frozen BK109.out 3; have hfz30_4 := blk_frozen BK109.out 4; have hfz30_5 := blk_frozen BK109.out 5; have hfz30_6 := blk_frozen BK109.out 6; have hfz30_7 := blk_frozen BK109.out 7; have hfz30_8 := blk_frozen BK109.out 8; have hfz30_9 := blk_frozen BK109.out 9; obtain ⟨Ao31, co31, eo31⟩ := Kd.R_slice HO112.out; subst eo31; have p113 : 0 ≤ (a0_3 : Int) := of_decide_eq_true (by first | (with_reducible assumption) | assumption); have q113 : a0_3 < (y110.length : Int) := of_decide_eq_true (by first | (with_reducible assumption) | assumption); obtain ⟨ad113, e113, hx113_0⟩ := Kd.at_int (Kd.R_reads' HO112.out).2.2 a0_3 p113 q113; cases e113; replace p113 := eq_true p113; replace q113 := eq_true q113)); try go_wp2_with (first | ((with_reducible refine gate_dst (N := 34) rfl ?_); refine Kd.R_lit (Kd.int .i64) _ 3 ?hg (N := 34) ?hd (xs := ([32, 64, 0] : List Int)) (inner := [.int .i64 32, .int .i64 64, .int .i64 0]) (ok := fun _ => True) (okp := fun _ => True) ?hr ?hp (fun _ hk => hk) trivial (Below.refl _ _) (Nat.le_refl _) (by simp) ?_; (case hd => rfl); (case hg => rfl); (case hr => first | (go_simp; done) | (go_simp; rfl)); (case hp => exact (Reps.one (show Kd.M (Kd.int .i64) _ _ _ 32 [.int .i64 32] from rfl) (Reps.one (show Kd.M (Kd.int .i64) _ _ _ 64 [.int .i64 64] from rfl) (Reps.one (show Kd.M (Kd.int .i64) _ _ _ 0 [.int .i64 0] from rfl) (Reps.none _ _))))); intro v111 w28 ho29 hb hg_ hnew_; clear hg_ hnew_; (first | rw [← Ny110.out] at ho29 | (simp only [Int.reduceToNat] at ho29; rw [← Ny110.out] at ho29)); have n0_ := Aside0.mk (Kd.R_lower ho29 (below_size (by repeat (first | (with_reducible first | exact HB.out | apply below_alloc | apply pw_below_drewN | apply below_drew1 | refine below_set ?_ GE109.out) | exact HB.out)))); have n1_ := Aside0.mk (blk_below (g := gb109) (o := .cells #[.int .i64 a0_0, .int .i64 a0_1, .bool a0_2, .int .i64 a0_3, .int .i64 a0_4, .int .i64 a0_5, .string a0_6, .bool a0_7, .slice A0_8 l0_8.length c0_8, .slice A0_9 l0_9.length c0_9] 32 (0, 0)) (by (with_reducible repeat (first | refine blk_drewN ?_ _ | refine blk_drew ?_ | refine blk_alloc ?_ _)); exact BK109.out) hb); have n2_ := Aside0.mk (below_step (by repeat (first | (with_reducible first | exact HB.out | apply below_alloc | apply pw_below_drewN | apply below_drew1 | refine below_set ?_ GE109.out) | exact HB.out)) hb); clear BK109; clear HB; have HO112 := n0_; have BK109 := n1_; have HB := n2_; clear n0_ n1_ n2_; clear hb ho29; have hcz30_0 : w28.cell? ⟨gb109, 0, none⟩ = some (.int .i64 a0_0) := (blk_cell BK109.out 0).trans rfl; have hcz30_1 : w28.cell? ⟨gb109, 1, none⟩ = some (.int .i64 a0_1) := (blk_cell BK109.out 1).trans rfl; have hcz30_2 : w28.cell? ⟨gb109, 2, none⟩ = some (.bool a0_2) := (blk_cell BK109.out 2).trans rfl; have hcz30_3 : w28.cell? ⟨gb109, 3, none⟩ = some (.int .i64 a0_3) := (blk_cell BK109.out 3).trans rfl; have hcz30_4 : w28.cell? ⟨gb109, 4, none⟩ = some (.int .i64 a0_4) := (blk_cell BK109.out 4).trans rfl; have hcz30_5 : w28.cell? ⟨gb109, 5, none⟩ = some (.int .i64 a0_5) := (blk_cell BK109.out 5).trans rfl; have hcz30_6 : w28.cell? ⟨gb109, 6, none⟩ = some (.string a0_6) := (blk_cell BK109.out 6).trans rfl; have hcz30_7 : w28.cell? ⟨gb109, 7, none⟩ = some (.bool a0_7) := (blk_cell BK109.out 7).trans rfl; have hcz30_8 : w28.cell? ⟨gb109, 8, none⟩ = some (.slice A0_8 l0_8.length c0_8) := (blk_cell BK109.out 8).trans rfl; have hcz30_9 : w28.cell? ⟨gb109, 9, none⟩ = some (.slice A0_9 l0_9.length c0_9) := (blk_cell BK109.out 9).trans rfl; have hfz30_0 := blk_frozen BK109.out 0; have hfz30_1 := blk_frozen BK109.out 1; have hfz30_2 := blk_frozen BK109.out 2; have hfz30_3 := blk_frozen BK109.out 3; have hfz30_4 := blk_frozen BK109.out 4; have hfz30_5 := blk_frozen BK109.out 5; have hfz30_6 := blk_frozen BK109.out 6; have hfz30_7 := blk_frozen BK109.out 7; have hfz30_8 := blk_frozen BK109.out 8; have hfz30_9 := blk_frozen BK109.out 9; obtain ⟨Ao31, co31, eo31⟩ := Kd.R_slice HO112.out; subst eo31; have p113 : 0 ≤ (a0_3 : Int) := of_decide_eq_true (by first | (with_reducible assumption) | assumption); have q113 : a0_3 < (y110.length : Int) := of_decide_eq_true (by first | (with_reducible assumption) | assumption); obtain ⟨ad113, e113, hx113_0⟩ := Kd.at_int (Kd.R_reads' HO112.out).2.2 a0_3 p113 q113; cases e113; replace p113 := eq_true p113; replace q113 := eq_true q113)))
                        go_ret2
                        exact ⟨by first | rfl | (simp [errW_none, errW_some] <;> rfl) | (simp [*, errW_none, errW_some] <;> rfl), by repeat (first | (with_reducible first | exact HB.out | apply below_alloc | apply pw_below_drewN | apply below_drew1 | refine below_set ?_ GE109.out) | exact HB.out)⟩
                      · rw [if_neg c27] at H
                        exact absurd H (by simp)
                    · rw [if_neg c26] at H
                      exact absurd H (by simp)
                  · rw [if_neg c25] at H
                    have c25b0 : (a0_0 == 11) = false := beq_eq_false_iff_ne.mpr c25
                    have c25b1 : (a0_0 != 11) = true := bne_iff_ne.mpr c25
                    simp only [Option.some.injEq, Prod.mk.injEq] at H
                    obtain ⟨rfl, rfl⟩ := H
                    go_wp2
                    repeat (go_quiet (fail); try go_wp2)
                    go_ret2
                    exact ⟨by first | rfl | (simp [errW_none, errW_some] <;> rfl) | (simp [*, errW_none, errW_some] <;> rfl), by repeat (first | (with_reducible first | exact HB.out | apply below_alloc | apply pw_below_drewN | apply below_drew1 | refine below_set ?_ GE109.out) | exact HB.out)⟩

end Go.Proofs.YtndbeeboehekaaaGreatDoor.Q
