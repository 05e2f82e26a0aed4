-- written by programs of ours (wip/tools) out of the kit's printer: the functions of one law, less those that are shared or proved by hand
import Derived.Test.YtndbeeboehekaaaGreatDoorMC
import Derived.Test.YtndbeeboehekaaaGreatDoorLk
import Derived.Test.YtndbeeboehekaaaGreatDoorQ0
import Derived.Test.YtndbeeboehekaaaGreatDoorQSFe
namespace Go.Proofs.YtndbeeboehekaaaGreatDoor.Q
open Go.RowKit Go.Proofs.YtndbeeboehekaaaGreatDoorW.PrintWords Go.Proofs.YtndbeeboehekaaaGreatDoorW.PrintLast Go.Proofs.YtndbeeboehekaaaGreatDoorW.PrintMore
attribute [local go_sem] max2_int min2_int max_two min_two max_three min_three max_four min_four
set_option linter.unusedVariables false
set_option linter.unusedSimpArgs false

/-! ### laws_FnSameFixedSizeBinary: function 3 -/
def laws_FnSameFixedSizeBinary.j0 : Nat → List (S25) → Int → Int → List (S25) → Int → Int → Bool → Option (Bool)
  | 0, _, _, _, _, _, _, _ => none
  | k + 1, x0, x1, x2, x3, x4, x5, x25 => if x25 = true then (some true) else ((some (([(⟨false, 0, (⟨#[97, 98, 99]⟩ : ByteArray), ([] : List (S25))⟩ : S25)] : List (S25)) : List (S25))).bind fun y139 => ((impl_SameFixedSizeBinary.f y139 0 1 y139 0 1).bind fun bt142 => ((laws_slices.f k 15 3 false 0 0 0 (⟨#[]⟩ : ByteArray) false ([] : List Int) ([] : List Int) x0 x1 x2 x3 x4 x5).bind fun t144 => (if t144 = true then ((impl_SameFixedSizeBinary.f x0 x1 x2 x3 x4 x5).bind fun bt145 => (if 0 ≤ x1 then (if x1 ≤ x2 then (if x2 ≤ (x0.length : Int) then (if 0 ≤ x4 then (if x4 ≤ x5 then (if x5 ≤ (x3.length : Int) then ((laws_likewise.f 15 3 false 0 0 0 (⟨#[]⟩ : ByteArray) false ([] : List Int) ([] : List Int) ((x0.take (x2 : Int).toNat).drop (x1 : Int).toNat) ((x3.take (x5 : Int).toNat).drop (x4 : Int).toNat) bt145.1 bt145.2).bind fun t155 => (if t155 = true then (if bt142.1 = true then (some bt142.2) else (some false)) else (some false))) else (none)) else (none)) else (none)) else (none)) else (none)) else (none))) else (if bt142.1 = true then (some bt142.2) else (some false))))))
def laws_FnSameFixedSizeBinary.f (k : Nat) (l0 : List (S25)) (a1 : Int) (a2 : Int) (l3 : List (S25)) (a4 : Int) (a5 : Int) : Option (Bool) := if (l0.length : Int) > 2147483647 then (laws_FnSameFixedSizeBinary.j0 k l0 a1 a2 l3 a4 a5 true) else (laws_FnSameFixedSizeBinary.j0 k l0 a1 a2 l3 a4 a5 (decide ((l3.length : Int) > 2147483647)))
theorem laws_FnSameFixedSizeBinary.mono_l : ∀ k, (∀ y0 y1 y2 y3 y4 y5 y6, LeO (laws_FnSameFixedSizeBinary.j0 k y0 y1 y2 y3 y4 y5 y6) (laws_FnSameFixedSizeBinary.j0 (k + 1) y0 y1 y2 y3 y4 y5 y6))
  | 0 => fun _ _ _ _ _ _ _ r h => by simp [laws_FnSameFixedSizeBinary.j0] at h
  | k + 1 => by
    have ih0 := laws_FnSameFixedSizeBinary.mono_l k
    · intro y0 y1 y2 y3 y4 y5 y6
      unfold laws_FnSameFixedSizeBinary.j0
      repeat' first
      | (with_reducible exact ih0 _ _ _ _ _ _ _)
      | (with_reducible exact laws_slices.mono _ _ _ _ _ _ _ _ _ _ _ _ _ _ _ _ _)
      | (with_reducible exact LeO.refl _)
      | (with_reducible exact LeO.none _)
      | (with_reducible refine LeO.ite ?_ ?_)
      | (with_reducible refine LeO.bind ?_ (fun _ => ?_))
      | exact ih0 _ _ _ _ _ _ _
      | exact laws_slices.mono _ _ _ _ _ _ _ _ _ _ _ _ _ _ _ _ _
      | exact LeO.none _
      | refine LeO.ite ?_ ?_
      | refine LeO.bind ?_ (fun _ => ?_)
theorem laws_FnSameFixedSizeBinary.mono : ∀ a0 a1 a2 a3 a4 a5 k, LeO (laws_FnSameFixedSizeBinary.f k a0 a1 a2 a3 a4 a5) (laws_FnSameFixedSizeBinary.f (k + 1) a0 a1 a2 a3 a4 a5) := by
  intro a0 a1 a2 a3 a4 a5 k
  have ih0 := laws_FnSameFixedSizeBinary.mono_l k
  unfold laws_FnSameFixedSizeBinary.f
  repeat' first
      | (with_reducible exact ih0 _ _ _ _ _ _ _)
      | (with_reducible exact laws_slices.mono _ _ _ _ _ _ _ _ _ _ _ _ _ _ _ _ _)
      | (with_reducible exact LeO.refl _)
      | (with_reducible exact LeO.none _)
      | (with_reducible refine LeO.ite ?_ ?_)
      | (with_reducible refine LeO.bind ?_ (fun _ => ?_))
      | exact ih0 _ _ _ _ _ _ _
      | exact laws_slices.mono _ _ _ _ _ _ _ _ _ _ _ _ _ _ _ _ _
      | exact LeO.none _
      | refine LeO.ite ?_ ?_
      | refine LeO.bind ?_ (fun _ => ?_)
def laws_FnSameFixedSizeBinary.T8 : Bool × List (List Nat × List Nat) := (true, [([], []), ([], []), ([], []), ([], []), ([1, 2, 3], [1, 2, 3]), ([], []), ([], []), ([], []), ([5, 6, 7], [5, 6, 7]), ([], []), ([], []), ([0, 4, 8, 9, 10], [0, 4, 8, 9, 10]), ([11, 11], [11]), ([12], [12]), ([12, 13], [12, 13]), ([14, 12], [14]), ([15], [15]), ([15, 16], [15, 16]), ([17, 15, 0, 1, 2, 3, 4, 5, 6, 7, 8, 9, 10, 11, 12, 13, 14, 15, 16, 17], [17])])
def laws_FnSameFixedSizeBinary.B8 : List Nat := [0, 0, 0, 0, 14, 0, 0, 0, 224, 0, 0, 2047, 4095, 8191, 16383, 32767, 65535, 131071, 262143]
theorem laws_FnSameFixedSizeBinary.tab8 : rtab .any (opsOf Tryz.f3 8) = laws_FnSameFixedSizeBinary.T8 := by kernel_rfl
theorem laws_FnSameFixedSizeBinary.bits8 : waitsOk laws_FnSameFixedSizeBinary.T8.2 laws_FnSameFixedSizeBinary.B8 = true := by kernel_rfl
set_option maxHeartbeats 8000000 in
set_option maxRecDepth 100000 in
theorem laws_FnSameFixedSizeBinary.calls (k : Nat) (A0 : Option Addr) (c0 : Nat) (l0 : List (S25)) (a1 : Int) (a2 : Int) (A3 : Option Addr) (c3 : Nat) (l3 : List (S25)) (a4 : Int) (a5 : Int) (r : Bool) (w : World) (hr0 : Kd.C k25 w A0 l0.length l0) (hc0 : l0.length ≤ c0) (hr3 : Kd.C k25 w A3 l3.length l3) (hc3 : l3.length ≤ c3) (h : laws_FnSameFixedSizeBinary.f k l0 a1 a2 l3 a4 a5 = some r) (hGl_ : Glob w) :
    Calls Tryz.prog 3 #[.slice A0 l0.length c0, .int .i64 a1, .int .i64 a2, .slice A3 l3.length c3, .int .i64 a4, .int .i64 a5] w fun e w' => e = .returned (.bool r) ∧ Below w.heap.size w w' := by
  have hu25 := Tryz.underlying25
  have hu32 := Tryz.underlying32
  have HGL_ := Aside0.mk hGl_
  clear hGl_
  have HR0 := Aside0.mk hr0
  have HC0 := Aside0.mk hc0
  clear hr0 hc0
  have HR3 := Aside0.mk hr3
  have HC3 := Aside0.mk hc3
  clear hr3 hc3
  have HB := Aside0.mk (Below.refl w.heap.size w)
  have H : (if (l0.length : Int) > 2147483647 then (laws_FnSameFixedSizeBinary.j0 k l0 a1 a2 l3 a4 a5 true) else (laws_FnSameFixedSizeBinary.j0 k l0 a1 a2 l3 a4 a5 (decide ((l3.length : Int) > 2147483647)))) = some r := h
  clear h
  have HC7 := Aside0.mk H
  clear H
  go_enter Tryz.func3, Tryz.ntmps3
  go_upto_region 1 with (fail)
  go_cut [25] (fun v25 wc => ∃ (kq : Nat) (x25_6 : Bool), v25 = .bool x25_6 ∧ Aside0 (laws_FnSameFixedSizeBinary.j0 kq l0 a1 a2 l3 a4 a5 x25_6 = some r) ∧ Aside0 (kq ≤ k) ∧ Aside0 (Below w.heap.size w wc))
  case first =>
    have H := HC7.out
    clear HC7
    by_cases c8 : (l0.length : Int) > 2147483647
    · rw [if_pos c8] at H
      have c8b0 : decide (2147483647 < (l0.length : Int)) = true := decide_eq_true c8
      have c8b1 : decide (2147483647 < l0.length) = true := decide_eq_true (by omega)
      clear c8
      (first | rw [c8b0] | (simp only [i64_w, i32_w]; rw [c8b0]) | skip)
      have H' := Aside0.mk H
      clear H
      go_wp2
      go_meet
      case rel => exact ⟨_, (true), (by first | rfl | (simp; done) | (simp [*]; done)), H', ⟨by first | omega | exact Nat.le_refl _⟩, ⟨by repeat (first | (with_reducible first | exact HB.out | apply below_alloc | apply pw_below_drewN | apply below_drew1) | exact HB.out)⟩⟩
    · rw [if_neg c8] at H
      have c8b0 : decide (2147483647 < (l0.length : Int)) = false := decide_eq_false c8
      have c8b1 : decide (2147483647 < l0.length) = false := decide_eq_false (by omega)
      clear c8
      (first | rw [c8b0] | (simp only [i64_w, i32_w]; rw [c8b0]) | skip)
      have H' := Aside0.mk H
      clear H
      go_wp2
      go_meet
      case rel => exact ⟨_, (decide ((l3.length : Int) > 2147483647)), (by first | rfl | (simp; done) | (simp [*]; done)), H', ⟨by first | omega | exact Nat.le_refl _⟩, ⟨by repeat (first | (with_reducible first | exact HB.out | apply below_alloc | apply pw_below_drewN | apply below_drew1) | exact HB.out)⟩⟩
  case rest =>
    clear HC7
    try clear p2
    try clear c3
    try clear c8
    try clear c8b0
    try clear c8b1
    obtain ⟨kq, x25_6, rfl, HA, HJ6, HB⟩ := hcut
    cases kq with
    | zero => exact absurd HA.out (by simp [laws_FnSameFixedSizeBinary.j0])
    | succ kj6 =>
      have H := HA.out
      clear HA
      simp only [laws_FnSameFixedSizeBinary.j0] at H
      by_cases c9 : x25_6 = true
      · subst c9
        have H1 : (some true) = some r := by rw [if_pos rfl] at H; exact H
        clear H
        have H := H1
        clear H1
        obtain rfl := Option.some.inj H
        go_wp2
        go_ret
        exact ⟨by first | rfl | (simp [errW_none, errW_some] <;> rfl) | (simp [*, errW_none, errW_some] <;> rfl), by repeat (first | (with_reducible first | exact HB.out | apply below_alloc | apply pw_below_drewN | apply below_drew1) | exact HB.out)⟩
      · replace c9 := Bool.eq_false_iff.mpr c9
        subst c9
        have H1 : ((some (([(⟨false, 0, (⟨#[97, 98, 99]⟩ : ByteArray), ([] : List (S25))⟩ : S25)] : List (S25)) : List (S25))).bind fun y139 => ((impl_SameFixedSizeBinary.f y139 0 1 y139 0 1).bind fun bt142 => ((laws_slices.f kj6 15 3 false 0 0 0 (⟨#[]⟩ : ByteArray) false ([] : List Int) ([] : List Int) l0 a1 a2 l3 a4 a5).bind fun t144 => (if t144 = true then ((impl_SameFixedSizeBinary.f l0 a1 a2 l3 a4 a5).bind fun bt145 => (if 0 ≤ a1 then (if a1 ≤ a2 then (if a2 ≤ (l0.length : Int) then (if 0 ≤ a4 then (if a4 ≤ a5 then (if a5 ≤ (l3.length : Int) then ((laws_likewise.f 15 3 false 0 0 0 (⟨#[]⟩ : ByteArray) false ([] : List Int) ([] : List Int) ((l0.take (a2 : Int).toNat).drop (a1 : Int).toNat) ((l3.take (a5 : Int).toNat).drop (a4 : Int).toNat) bt145.1 bt145.2).bind fun t155 => (if t155 = true then (if bt142.1 = true then (some bt142.2) else (some false)) else (some false))) else (none)) else (none)) else (none)) else (none)) else (none)) else (none))) else (if bt142.1 = true then (some bt142.2) else (some false)))))) = some r := by rw [if_neg (show ¬ (false = true) by decide)] at H; exact H
        clear H
        have H := H1
        clear H1
        obtain ⟨y139, hy139⟩ : ∃ y_ : List (S25), y_ = (([(⟨false, 0, (⟨#[97, 98, 99]⟩ : ByteArray), ([] : List (S25))⟩ : S25)] : List (S25))) := ⟨_, rfl⟩
        replace H : ((impl_SameFixedSizeBinary.f y139 0 1 y139 0 1).bind fun bt142 => ((laws_slices.f kj6 15 3 false 0 0 0 (⟨#[]⟩ : ByteArray) false ([] : List Int) ([] : List Int) l0 a1 a2 l3 a4 a5).bind fun t144 => (if t144 = true then ((impl_SameFixedSizeBinary.f l0 a1 a2 l3 a4 a5).bind fun bt145 => (if 0 ≤ a1 then (if a1 ≤ a2 then (if a2 ≤ (l0.length : Int) then (if 0 ≤ a4 then (if a4 ≤ a5 then (if a5 ≤ (l3.length : Int) then ((laws_likewise.f 15 3 false 0 0 0 (⟨#[]⟩ : ByteArray) false ([] : List Int) ([] : List Int) ((l0.take (a2 : Int).toNat).drop (a1 : Int).toNat) ((l3.take (a5 : Int).toNat).drop (a4 : Int).toNat) bt145.1 bt145.2).bind fun t155 => (if t155 = true then (if bt142.1 = true then (some bt142.2) else (some false)) else (some false))) else (none)) else (none)) else (none)) else (none)) else (none)) else (none))) else (if bt142.1 = true then (some bt142.2) else (some false))))) = some r := by first | (rw [hy139]; with_reducible exact H) | (have H2_ := (Option.bind_some _ _).symm.trans H; rw [hy139]; with_reducible exact H2_) | (have H2_ := (Option.bind_some _ _).symm.trans H; with_reducible exact H2_) | with_reducible exact H | (rw [hy139]; exact H) | exact H
        have Ny139 := Aside0.mk hy139
        clear hy139
        replace H := Option.bind_eq_some_iff.mp H
        obtain ⟨⟨t142, t143⟩, A100, H⟩ := H
        replace H : ((laws_slices.f kj6 15 3 false 0 0 0 (⟨#[]⟩ : ByteArray) false ([] : List Int) ([] : List Int) l0 a1 a2 l3 a4 a5).bind fun t144 => (if t144 = true then ((impl_SameFixedSizeBinary.f l0 a1 a2 l3 a4 a5).bind fun bt145 => (if 0 ≤ a1 then (if a1 ≤ a2 then (if a2 ≤ (l0.length : Int) then (if 0 ≤ a4 then (if a4 ≤ a5 then (if a5 ≤ (l3.length : Int) then ((laws_likewise.f 15 3 false 0 0 0 (⟨#[]⟩ : ByteArray) false ([] : List Int) ([] : List Int) ((l0.take (a2 : Int).toNat).drop (a1 : Int).toNat) ((l3.take (a5 : Int).toNat).drop (a4 : Int).toNat) bt145.1 bt145.2).bind fun t155 => (if t155 = true then (if t142 = true then (some t143) else (some false)) else (some false))) else (none)) else (none)) else (none)) else (none)) else (none)) else (none))) else (if t142 = true then (some t143) else (some false)))) = some r := H
        have A10 := Aside0.mk A100
        clear A100
        replace H := Option.bind_eq_some_iff.mp H
        obtain ⟨t144, A110, H⟩ := H
        replace H : (if t144 = true then ((impl_SameFixedSizeBinary.f l0 a1 a2 l3 a4 a5).bind fun bt145 => (if 0 ≤ a1 then (if a1 ≤ a2 then (if a2 ≤ (l0.length : Int) then (if 0 ≤ a4 then (if a4 ≤ a5 then (if a5 ≤ (l3.length : Int) then ((laws_likewise.f 15 3 false 0 0 0 (⟨#[]⟩ : ByteArray) false ([] : List Int) ([] : List Int) ((l0.take (a2 : Int).toNat).drop (a1 : Int).toNat) ((l3.take (a5 : Int).toNat).drop (a4 : Int).toNat) bt145.1 bt145.2).bind fun t155 => (if t155 = true then (if t142 = true then (some t143) else (some false)) else (some false))) else (none)) else (none)) else (none)) else (none)) else (none)) else (none))) else (if t142 = true then (some t143) else (some false))) = some r := H
        have A11 := Aside0.mk A110
        clear A110
        by_cases c12 : t144 = true
        · subst c12
          have H1 : ((impl_SameFixedSizeBinary.f l0 a1 a2 l3 a4 a5).bind fun bt145 => (if 0 ≤ a1 then (if a1 ≤ a2 then (if a2 ≤ (l0.length : Int) then (if 0 ≤ a4 then (if a4 ≤ a5 then (if a5 ≤ (l3.length : Int) then ((laws_likewise.f 15 3 false 0 0 0 (⟨#[]⟩ : ByteArray) false ([] : List Int) ([] : List Int) ((l0.take (a2 : Int).toNat).drop (a1 : Int).toNat) ((l3.take (a5 : Int).toNat).drop (a4 : Int).toNat) bt145.1 bt145.2).bind fun t155 => (if t155 = true then (if t142 = true then (some t143) else (some false)) else (some false))) else (none)) else (none)) else (none)) else (none)) else (none)) else (none))) = some r := by rw [if_pos rfl] at H; exact H
          clear H
          have H := H1
          clear H1
          replace H := Option.bind_eq_some_iff.mp H
          obtain ⟨⟨t145, t146⟩, A130, H⟩ := H
          replace H : (if 0 ≤ a1 then (if a1 ≤ a2 then (if a2 ≤ (l0.length : Int) then (if 0 ≤ a4 then (if a4 ≤ a5 then (if a5 ≤ (l3.length : Int) then ((laws_likewise.f 15 3 false 0 0 0 (⟨#[]⟩ : ByteArray) false ([] : List Int) ([] : List Int) ((l0.take (a2 : Int).toNat).drop (a1 : Int).toNat) ((l3.take (a5 : Int).toNat).drop (a4 : Int).toNat) t145 t146).bind fun t155 => (if t155 = true then (if t142 = true then (some t143) else (some false)) else (some false))) else (none)) else (none)) else (none)) else (none)) else (none)) else (none)) = some r := H
          have A13 := Aside0.mk A130
          clear A130
          by_cases c14 : 0 ≤ a1
          · rw [if_pos c14] at H
            have c14b0 := eq_true c14
            have c14b1 : decide (0 ≤ a1) = true := decide_eq_true c14
            clear c14
            by_cases c15 : a1 ≤ a2
            · rw [if_pos c15] at H
              have c15b0 := eq_true c15
              have c15b1 : decide (a1 ≤ a2) = true := decide_eq_true c15
              clear c15
              by_cases c16 : a2 ≤ (l0.length : Int)
              · rw [if_pos c16] at H
                have c16b0 := eq_true c16
                have c16b1 : decide (a2 ≤ (l0.length : Int)) = true := decide_eq_true c16
                clear c16
                obtain ⟨y147, hy147⟩ : ∃ y_ : List (S25), y_ = ((l0.take (a2 : Int).toNat).drop (a1 : Int).toNat) := ⟨_, rfl⟩
                replace H : (if 0 ≤ a4 then (if a4 ≤ a5 then (if a5 ≤ (l3.length : Int) then ((laws_likewise.f 15 3 false 0 0 0 (⟨#[]⟩ : ByteArray) false ([] : List Int) ([] : List Int) y147 ((l3.take (a5 : Int).toNat).drop (a4 : Int).toNat) t145 t146).bind fun t155 => (if t155 = true then (if t142 = true then (some t143) else (some false)) else (some false))) else (none)) else (none)) else (none)) = some r := by first | (rw [hy147]; with_reducible exact H) | (have H2_ := (Option.bind_some _ _).symm.trans H; rw [hy147]; with_reducible exact H2_) | (have H2_ := (Option.bind_some _ _).symm.trans H; with_reducible exact H2_) | with_reducible exact H | (rw [hy147]; exact H) | exact H
                have Ny147 := Aside0.mk hy147
                clear hy147
                by_cases c17 : 0 ≤ a4
                · rw [if_pos c17] at H
                  have c17b0 := eq_true c17
                  have c17b1 : decide (0 ≤ a4) = true := decide_eq_true c17
                  clear c17
                  by_cases c18 : a4 ≤ a5
                  · rw [if_pos c18] at H
                    have c18b0 := eq_true c18
                    have c18b1 : decide (a4 ≤ a5) = true := decide_eq_true c18
                    clear c18
                    by_cases c19 : a5 ≤ (l3.length : Int)
                    · rw [if_pos c19] at H
                      have c19b0 := eq_true c19
                      have c19b1 : decide (a5 ≤ (l3.length : Int)) = true := decide_eq_true c19
                      clear c19
                      obtain ⟨y151, hy151⟩ : ∃ y_ : List (S25), y_ = ((l3.take (a5 : Int).toNat).drop (a4 : Int).toNat) := ⟨_, rfl⟩
                      replace H : ((laws_likewise.f 15 3 false 0 0 0 (⟨#[]⟩ : ByteArray) false ([] : List Int) ([] : List Int) y147 y151 t145 t146).bind fun t155 => (if t155 = true then (if t142 = true then (some t143) else (some false)) else (some false))) = some r := by first | (rw [hy151]; with_reducible exact H) | (have H2_ := (Option.bind_some _ _).symm.trans H; rw [hy151]; with_reducible exact H2_) | (have H2_ := (Option.bind_some _ _).symm.trans H; with_reducible exact H2_) | with_reducible exact H | (rw [hy151]; exact H) | exact H
                      have Ny151 := Aside0.mk hy151
                      clear hy151
                      replace H := Option.bind_eq_some_iff.mp H
                      obtain ⟨t155, A200, H⟩ := H
                      replace H : (if t155 = true then (if t142 = true then (some t143) else (some false)) else (some false)) = some r := H
                      have A20 := Aside0.mk A200
                      clear A200
                      by_cases c21 : t155 = true
                      · subst c21
                        have H1 : (if t142 = true then (some t143) else (some false)) = some r := by rw [if_pos rfl] at H; exact H
                        clear H
                        have H := H1
                        clear H1
                        by_cases c22 : t142 = true
                        · subst c22
                          have H1 : (some t143) = some r := by rw [if_pos rfl] at H; exact H
                          clear H
                          have H := H1
                          clear H1
                          obtain rfl := Option.some.inj H
                          try go_wp2_with (first | ((with_reducible refine gate_dst (N := 27) rfl ?_); (try (refine gate_guard (by rfl) ?_; dsimp only)); refine Kd.R_lit k25 _ 25 ?hg (N := 27) ?hd (xs := ([(⟨false, 0, (⟨#[97, 98, 99]⟩ : ByteArray), ([] : List (S25))⟩ : S25)] : List (S25))) (inner := [.bool false, .int .u64 0, .string (⟨#[97, 98, 99]⟩ : ByteArray), .slice none 0 0]) (ok := fun _ => True) (okp := fun _ => True) ?hr ?hp (fun _ hk => hk) trivial (Below.refl _ _) (Nat.le_refl _) (by simp) ?_; (case hd => rfl); (case hg => rfl); (case hr => first | (go_simp; done) | (go_simp; rfl)); (case hp => exact (Reps.c4 (show Kd.M k25 _ _ _ (⟨false, 0, (⟨#[97, 98, 99]⟩ : ByteArray), ([] : List (S25))⟩ : S25) [.bool false, .int .u64 0, .string (⟨#[97, 98, 99]⟩ : ByteArray), .slice none 0 0] from (k25_mkM _ _ _ (⟨false, 0, (⟨#[97, 98, 99]⟩ : ByteArray), ([] : List (S25))⟩ : S25) (Kd.R_nil _ _ _ _ _))) (Reps.none _ _))); intro v140 w23 ho24 hb hg_ hnew_; clear hg_ hnew_; (first | rw [← Ny139.out] at ho24 | (simp only [Int.reduceToNat] at ho24; rw [← Ny139.out] at ho24)); have n0_ := Aside0.mk (Kd.R_lower ho24 (below_size (by repeat (first | (with_reducible first | exact HB.out | apply below_alloc | apply pw_below_drewN | apply below_drew1) | exact HB.out)))); have n1_ := Aside0.mk (below_step (by repeat (first | (with_reducible first | exact HB.out | apply below_alloc | apply pw_below_drewN | apply below_drew1) | exact HB.out)) hb); clear HB; have HO141 := n0_; have HB := n1_; clear n0_ n1_; clear hb ho24; obtain ⟨Ao25, co25, eo25⟩ := Kd.R_slice HO141.out; subst eo25) | ((with_reducible refine gate_callee (f := 4) rfl ?_); refine goesL_ (some 31) rfl rfl Tryz.func4 (by kernel_rfl) rfl #[.slice Ao25 y139.length co25, .int .i64 0, .int .i64 1, .slice Ao25 y139.length co25, .int .i64 0, .int .i64 1] rfl (by (try simp only [List.map_toArray, List.map_cons, List.map_nil]); first | done | rfl | (simp only [List.length_drop, List.length_take]; rfl)) ?_; (with_reducible refine (impl_SameFixedSizeBinary.calls _ _ y139 0 1 _ _ y139 0 1 true t143 _ ?side1 ?side2 ?side3 ?side4 A10.out ?sideG).mono ?_); (case sideG => exact Glob.below HGL_.out (by repeat (first | (with_reducible first | exact HB.out | apply below_alloc | apply pw_below_drewN | apply below_drew1) | exact HB.out))); (case side1 => repeat (first | exact (Kd.R_reads' HO141.out).2.2 | (with_reducible refine Kd.C_alloc ?_ _) | (with_reducible refine Kd.C_drewN ?_ _) | (with_reducible refine Kd.C_drew ?_))); (case side2 => exact (Kd.R_reads' HO141.out).2.1); (case side3 => repeat (first | exact (Kd.R_reads' HO141.out).2.2 | (with_reducible refine Kd.C_alloc ?_ _) | (with_reducible refine Kd.C_drewN ?_ _) | (with_reducible refine Kd.C_drew ?_))); (case side4 => exact (Kd.R_reads' HO141.out).2.1); rintro e w26 ⟨rfl, hb⟩; refine ⟨_, rfl, ?_⟩; have n0_ := Aside0.mk (Kd.R_below (by (with_reducible repeat (first | apply Kd.R_alloc | apply Kd.R_drewN | apply Kd.R_drew)); exact HO141.out) hb); have n1_ := Aside0.mk (below_step (by repeat (first | (with_reducible first | exact HB.out | apply below_alloc | apply pw_below_drewN | apply below_drew1) | exact HB.out)) hb); clear HO141; clear HB; have HO141 := n0_; have HB := n1_; clear n0_ n1_; (try clear hb); (try clear hb2); (try clear hk); (try clear hi)) | ((with_reducible refine gate_callee (f := 5) rfl ?_); refine goesL_ (some 41) rfl rfl Tryz.func5 (by kernel_rfl) rfl #[.agg #[.int .i64 15, .int .i64 3, .bool false, .int .i64 0, .int .i64 0, .int .i64 0, .string (⟨#[]⟩ : ByteArray), .bool false, .slice none 0 0, .slice none 0 0], .slice A0 l0.length c0, .int .i64 a1, .int .i64 a2, .slice A3 l3.length c3, .int .i64 a4, .int .i64 a5] rfl (by (try simp only [List.map_toArray, List.map_cons, List.map_nil]); first | done | rfl | (simp only [List.length_drop, List.length_take]; rfl)) ?_; (refine (laws_slices.calls kj6 15 3 false 0 0 0 (⟨#[]⟩ : ByteArray) false _ _ ([] : List Int) _ _ ([] : List Int) _ _ l0 a1 a2 _ _ l3 a4 a5 true _ ?side1 ?side2 ?side3 ?side4 ?side5 ?side6 ?side7 ?side8 A11.out).mono ?_); (case side1 => exact Kd.C_nil _ _); (case side2 => exact Nat.le_refl _); (case side3 => exact Kd.C_nil _ _); (case side4 => exact Nat.le_refl _); (case side5 => repeat (first | exact (Kd.C_below HR0.out HB.out) | (with_reducible refine Kd.C_alloc ?_ _) | (with_reducible refine Kd.C_drewN ?_ _) | (with_reducible refine Kd.C_drew ?_))); (case side6 => exact HC0.out); (case side7 => repeat (first | exact (Kd.C_below HR3.out HB.out) | (with_reducible refine Kd.C_alloc ?_ _) | (with_reducible refine Kd.C_drewN ?_ _) | (with_reducible refine Kd.C_drew ?_))); (case side8 => exact HC3.out); rintro e w27 ⟨rfl, hb⟩; refine ⟨_, rfl, ?_⟩; have n0_ := Aside0.mk (Kd.R_below (by (with_reducible repeat (first | apply Kd.R_alloc | apply Kd.R_drewN | apply Kd.R_drew)); exact HO141.out) hb); have n1_ := Aside0.mk (below_step (by repeat (first | (with_reducible first | exact HB.out | apply below_alloc | apply pw_below_drewN | apply below_drew1) | exact HB.out)) hb); clear HO141; clear HB; have HO141 := n0_; have HB := n1_; clear n0_ n1_; (try clear hb); (try clear hb2); (try clear hk); (try clear hi)) | ((with_reducible refine gate_callee (f := 4) rfl ?_); refine goesL_ (some 54) rfl rfl Tryz.func4 (by kernel_rfl) rfl #[.slice A0 l0.length c0, .int .i64 a1, .int .i64 a2, .slice A3 l3.length c3, .int .i64 a4, .int .i64 a5] rfl (by (try simp only [List.map_toArray, List.map_cons, List.map_nil]); first | done | rfl | (simp only [List.length_drop, List.length_take]; rfl)) ?_; (with_reducible refine (impl_SameFixedSizeBinary.calls _ _ l0 a1 a2 _ _ l3 a4 a5 t145 t146 _ ?side1 ?side2 ?side3 ?side4 A13.out ?sideG).mono ?_); (case sideG => exact Glob.below HGL_.out (by repeat (first | (with_reducible first | exact HB.out | apply below_alloc | apply pw_below_drewN | apply below_drew1) | exact HB.out))); (case side1 => repeat (first | exact (Kd.C_below HR0.out HB.out) | (with_reducible refine Kd.C_alloc ?_ _) | (with_reducible refine Kd.C_drewN ?_ _) | (with_reducible refine Kd.C_drew ?_))); (case side2 => exact HC0.out); (case side3 => repeat (first | exact (Kd.C_below HR3.out HB.out) | (with_reducible refine Kd.C_alloc ?_ _) | (with_reducible refine Kd.C_drewN ?_ _) | (with_reducible refine Kd.C_drew ?_))); (case side4 => exact HC3.out); rintro e w28 ⟨rfl, hb⟩; refine ⟨_, rfl, ?_⟩; have n0_ := Aside0.mk (Kd.R_below (by (with_reducible repeat (first | apply Kd.R_alloc | apply Kd.R_drewN | apply Kd.R_drew)); exact HO141.out) hb); have n1_ := Aside0.mk (below_step (by repeat (first | (with_reducible first | exact HB.out | apply below_alloc | apply pw_below_drewN | apply below_drew1) | exact HB.out)) hb); clear HO141; clear HB; have HO141 := n0_; have HB := n1_; clear n0_ n1_; (try clear hb); (try clear hb2); (try clear hk); (try clear hi)))
                          have n0_ := Aside0.mk (Kd.R_drew HO141.out)
                          have n1_ := Aside0.mk (below_drew1 HB.out)
                          clear HO141
                          clear HB
                          have HO141 := n0_
                          have HB := n1_
                          clear n0_ n1_
                          have q30 : (a2 : Int) ≤ ((l0.length : Int) : Int) := of_decide_eq_true (by first | (with_reducible assumption) | assumption)
                          obtain ⟨i030, hi030, _, hsz30, _⟩ := info_parts info25
                          have hroom30 : l0.length ≤ c0 := HC0.out
                          have hC30 : Kd.C k25 _ A0 l0.length l0 := HR0.out
                          have ql30 : (a1 : Int) ≤ (a2 : Int) := of_decide_eq_true (by first | (with_reducible assumption) | assumption)
                          have q030 : (0 : Int) ≤ (a1 : Int) := of_decide_eq_true (by first | (with_reducible assumption) | assumption)
                          have hcut30 := cut_mid (P := Tryz.prog) 22 25 .i64 .i64 Tryz.underlying22 hi030 4 hsz30 A0 l0.length c0 a1 a2 q030 ql30 q30 hroom30
                          have hr30 := Kd.C_mid (lo := (a1 : Int).toNat) (hi := (a2 : Int).toNat) (c := c0) hC30 (by omega) (by omega) hroom30
                          obtain ⟨A30, hA30⟩ : ∃ A1, A1 = (if c0 = (a1 : Int).toNat then A0 else (A0 : Option Addr).map (·.add ((a1 : Int).toNat * 4))) := ⟨_, rfl⟩
                          obtain ⟨c30, hc30⟩ : ∃ c1, c1 = c0 - (a1 : Int).toNat := ⟨_, rfl⟩
                          have hy30 : y147.length = (a2 : Int).toNat - (a1 : Int).toNat := (by rw [Ny147.out, List.length_drop, List.length_take] <;> omega)
                          rw [show ((l0).take (a2 : Int).toNat).drop (a1 : Int).toNat = y147 from Ny147.out.symm] at hr30
                          replace hr30 : Kd.C k25 _ A30 y147.length y147 := (by rw [hA30]; exact hr30)
                          rw [← hy30, ← hA30, ← hc30] at hcut30
                          have HR150 := Aside0.mk hr30
                          have HC150 := Aside0.mk (show y147.length ≤ c30 from by rw [hy30, hc30]; exact Nat.sub_le_sub_right (Nat.le_trans (by omega) hroom30) _)
                          clear hr30 hC30 hroom30 hi030 hsz30 hc30
                          have KY30 := Aside0.mk hy30
                          have KA30 := Aside0.mk hA30
                          clear hy30 hA30
                          replace q30 := eq_true q30
                          have q31 : (a5 : Int) ≤ ((l3.length : Int) : Int) := of_decide_eq_true (by first | (with_reducible assumption) | assumption)
                          obtain ⟨i031, hi031, _, hsz31, _⟩ := info_parts info25
                          have hroom31 : l3.length ≤ c3 := HC3.out
                          have hC31 : Kd.C k25 _ A3 l3.length l3 := HR3.out
                          have ql31 : (a4 : Int) ≤ (a5 : Int) := of_decide_eq_true (by first | (with_reducible assumption) | assumption)
                          have q031 : (0 : Int) ≤ (a4 : Int) := of_decide_eq_true (by first | (with_reducible assumption) | assumption)
                          have hcut31 := cut_mid (P := Tryz.prog) 22 25 .i64 .i64 Tryz.underlying22 hi031 4 hsz31 A3 l3.length c3 a4 a5 q031 ql31 q31 hroom31
                          have hr31 := Kd.C_mid (lo := (a4 : Int).toNat) (hi := (a5 : Int).toNat) (c := c3) hC31 (by omega) (by omega) hroom31
                          obtain ⟨A31, hA31⟩ : ∃ A1, A1 = (if c3 = (a4 : Int).toNat then A3 else (A3 : Option Addr).map (·.add ((a4 : Int).toNat * 4))) := ⟨_, rfl⟩
                          obtain ⟨c31, hc31⟩ : ∃ c1, c1 = c3 - (a4 : Int).toNat := ⟨_, rfl⟩
                          have hy31 : y151.length = (a5 : Int).toNat - (a4 : Int).toNat := (by rw [Ny151.out, List.length_drop, List.length_take] <;> omega)
                          rw [show ((l3).take (a5 : Int).toNat).drop (a4 : Int).toNat = y151 from Ny151.out.symm] at hr31
                          replace hr31 : Kd.C k25 _ A31 y151.length y151 := (by rw [hA31]; exact hr31)
                          rw [← hy31, ← hA31, ← hc31] at hcut31
                          have HR154 := Aside0.mk hr31
                          have HC154 := Aside0.mk (show y151.length ≤ c31 from by rw [hy31, hc31]; exact Nat.sub_le_sub_right (Nat.le_trans (by omega) hroom31) _)
                          clear hr31 hC31 hroom31 hi031 hsz31 hc31
                          have KY31 := Aside0.mk hy31
                          have KA31 := Aside0.mk hA31
                          clear hy31 hA31
                          replace q31 := eq_true q31
                          refine start_ (n := 19) (S := fun w' => True) (ds := []) #[false, false, false, false, false, false, false, false, false, false, false, false, false, false, false, false, false, false, false] (by kernel_rfl) rfl rfl trivial (fun hHeld => ?_); refine with_tabW laws_FnSameFixedSizeBinary.tab8 laws_FnSameFixedSizeBinary.bits8 (fun HT_ HW_ => ?_)
                          generalize w28.drew = w29 at HO141 HB HR150 HR154 hHeld ⊢
                          refine pure_ (i := 0) (N := some 57) (v := ?_) (a' := ?_) #[true, false, false, false, false, false, false, false, false, false, false, false, false, false, false, false, false, false, false] rfl rfl (any_of HT_.out (by kernel_rfl)) (fun _ _ _ h => h) (Or.inl ⟨by rfl, ?_⟩) ?_ ?_
                          rotate_left
                          · intro w'
                            go_simp
                            with_reducible rfl
                          rotate_left
                          · simp only [Act.put, List.setIfInBounds_toArray, List.set_cons_zero, List.set_cons_succ, i64_w, i32_w]
                            rfl
                          refine pure_ (i := 1) (N := some 58) (v := ?_) (a' := ?_) #[true, true, false, false, false, false, false, false, false, false, false, false, false, false, false, false, false, false, false] rfl rfl (any_of HT_.out (by kernel_rfl)) (fun _ _ _ h => h) (Or.inl ⟨by rfl, ?_⟩) ?_ ?_
                          rotate_left
                          · intro w'
                            go_simp
                            with_reducible rfl
                          rotate_left
                          · simp only [Act.put, List.setIfInBounds_toArray, List.set_cons_zero, List.set_cons_succ, i64_w, i32_w]
                            rfl
                          refine pure_ (i := 2) (N := some 59) (v := ?_) (a' := ?_) #[true, true, true, false, false, false, false, false, false, false, false, false, false, false, false, false, false, false, false] rfl rfl (any_of HT_.out (by kernel_rfl)) (fun _ _ _ h => h) (Or.inl ⟨by rfl, ?_⟩) ?_ ?_
                          rotate_left
                          · intro w'
                            go_simp
                            with_reducible rfl
                          rotate_left
                          · simp only [Act.put, List.setIfInBounds_toArray, List.set_cons_zero, List.set_cons_succ, i64_w, i32_w]
                            rfl
                          refine pure_ (i := 3) (N := some 60) (v := ?_) (a' := ?_) #[true, true, true, true, false, false, false, false, false, false, false, false, false, false, false, false, false, false, false] rfl rfl (any_of HT_.out (by kernel_rfl)) (fun _ _ _ h => h) (Or.inl ⟨by rfl, ?_⟩) ?_ ?_
                          rotate_left
                          · intro w'
                            go_simp
                            with_reducible rfl
                          rotate_left
                          · simp only [Act.put, List.setIfInBounds_toArray, List.set_cons_zero, List.set_cons_succ, i64_w, i32_w]
                            rfl
                          refine pure_ (i := 4) (N := some 61) (v := ?_) (a' := ?_) #[true, true, true, true, true, false, false, false, false, false, false, false, false, false, false, false, false, false, false] rfl rfl (any_of HT_.out (by kernel_rfl)) (fun _ _ _ h => h) (Or.inl ⟨by rfl, ?_⟩) ?_ ?_
                          rotate_left
                          · intro w'
                            go_simp
                            with_reducible rfl
                          rotate_left
                          · simp only [Act.put, List.setIfInBounds_toArray, List.set_cons_zero, List.set_cons_succ, i64_w, i32_w]
                            rfl
                          refine pure_ (i := 5) (N := some 62) (v := ?_) (a' := ?_) #[true, true, true, true, true, true, false, false, false, false, false, false, false, false, false, false, false, false, false] rfl rfl (any_of HT_.out (by kernel_rfl)) (fun _ _ _ h => h) (Or.inl ⟨by rfl, ?_⟩) ?_ ?_
                          rotate_left
                          · intro w'
                            go_simp
                            with_reducible rfl
                          rotate_left
                          · simp only [Act.put, List.setIfInBounds_toArray, List.set_cons_zero, List.set_cons_succ, i64_w, i32_w]
                            rfl
                          refine pure_ (i := 6) (N := some 63) (v := ?_) (a' := ?_) #[true, true, true, true, true, true, true, false, false, false, false, false, false, false, false, false, false, false, false] rfl rfl (any_of HT_.out (by kernel_rfl)) (fun _ _ _ h => h) (Or.inl ⟨by rfl, ?_⟩) ?_ ?_
                          rotate_left
                          · intro w'
                            go_simp
                            with_reducible rfl
                          rotate_left
                          · simp only [Act.put, List.setIfInBounds_toArray, List.set_cons_zero, List.set_cons_succ, i64_w, i32_w]
                            rfl
                          refine pure_ (i := 7) (N := some 64) (v := ?_) (a' := ?_) #[true, true, true, true, true, true, true, true, false, false, false, false, false, false, false, false, false, false, false] rfl rfl (any_of HT_.out (by kernel_rfl)) (fun _ _ _ h => h) (Or.inl ⟨by rfl, ?_⟩) ?_ ?_
                          rotate_left
                          · intro w'
                            go_simp
                            with_reducible rfl
                          rotate_left
                          · simp only [Act.put, List.setIfInBounds_toArray, List.set_cons_zero, List.set_cons_succ, i64_w, i32_w]
                            rfl
                          refine pure_ (i := 8) (N := some 65) (v := ?_) (a' := ?_) #[true, true, true, true, true, true, true, true, true, false, false, false, false, false, false, false, false, false, false] rfl rfl (any_of HT_.out (by kernel_rfl)) (fun _ _ _ h => h) (Or.inl ⟨by rfl, ?_⟩) ?_ ?_
                          rotate_left
                          · intro w'
                            go_simp
                            with_reducible rfl
                          rotate_left
                          · simp only [Act.put, List.setIfInBounds_toArray, List.set_cons_zero, List.set_cons_succ, i64_w, i32_w]
                            rfl
                          refine pure_ (i := 9) (N := some 66) (v := ?_) (a' := ?_) #[true, true, true, true, true, true, true, true, true, true, false, false, false, false, false, false, false, false, false] rfl rfl (any_of HT_.out (by kernel_rfl)) (fun _ _ _ h => h) (Or.inl ⟨by rfl, ?_⟩) ?_ ?_
                          rotate_left
                          · intro w'
                            go_simp
                            with_reducible rfl
                          rotate_left
                          · simp only [Act.put, List.setIfInBounds_toArray, List.set_cons_zero, List.set_cons_succ, i64_w, i32_w]
                            rfl
                          refine pure_ (i := 10) (N := some 67) (v := ?_) (a' := ?_) #[true, true, true, true, true, true, true, true, true, true, true, false, false, false, false, false, false, false, false] rfl rfl (any_of HT_.out (by kernel_rfl)) (fun _ _ _ h => h) (Or.inl ⟨by rfl, ?_⟩) ?_ ?_
                          rotate_left
                          · intro w'
                            go_simp
                            with_reducible rfl
                          rotate_left
                          · simp only [Act.put, List.setIfInBounds_toArray, List.set_cons_zero, List.set_cons_succ, i64_w, i32_w]
                            rfl
                          refine one_ (i := 11) (N := some 68) #[true, true, true, true, true, true, true, true, true, true, true, true, false, false, false, false, false, false, false] rfl rfl (one_of HT_.out (by kernel_rfl)) (by decide) (fun K hK => ?_)
                          refine goes_ Tryz.func6 (by kernel_rfl) rfl #[.agg #[.int .i64 15, .int .i64 3, .bool false, .int .i64 0, .int .i64 0, .int .i64 0, .string (⟨#[]⟩ : ByteArray), .bool false, .slice none 0 0, .slice none 0 0], .slice A30 y147.length c30, .slice A31 y151.length c31, .bool t145, .bool t146] (by rfl) rfl rfl (by (try simp only [List.map_toArray, List.map_cons, List.map_nil]); first | done | rfl | (simp only [List.length_drop, List.length_take]; rfl)) ?_
                          refine (laws_likewise.calls 15 3 false 0 0 0 (⟨#[]⟩ : ByteArray) false _ _ ([] : List Int) _ _ ([] : List Int) _ _ y147 _ _ y151 t145 t146 true _ ?side1 ?side2 ?side3 ?side4 ?side5 ?side6 ?side7 ?side8 A20.out ?sideG).mono ?_
                          (case sideG => exact Glob.below HGL_.out (by repeat (first | (with_reducible first | exact HB.out | apply below_alloc | apply pw_below_drewN | apply below_drew1) | exact HB.out)))
                          (case side1 => exact Kd.C_nil _ _)
                          (case side2 => exact Nat.le_refl _)
                          (case side3 => exact Kd.C_nil _ _)
                          (case side4 => exact Nat.le_refl _)
                          (case side5 => repeat (first | exact (Kd.C_below HR150.out HB.out) | (with_reducible refine Kd.C_alloc ?_ _) | (with_reducible refine Kd.C_drewN ?_ _) | (with_reducible refine Kd.C_drew ?_)))
                          (case side6 => exact HC150.out)
                          (case side7 => repeat (first | exact (Kd.C_below HR154.out HB.out) | (with_reducible refine Kd.C_alloc ?_ _) | (with_reducible refine Kd.C_drewN ?_ _) | (with_reducible refine Kd.C_drew ?_)))
                          (case side8 => exact HC154.out)
                          rintro e w32 ⟨rfl, hb⟩
                          refine ⟨_, rfl, ?_⟩
                          have n0_ := Aside0.mk (Kd.R_below (by (with_reducible repeat (first | apply Kd.R_alloc | apply Kd.R_drewN | apply Kd.R_drew)); exact HO141.out) hb)
                          have n1_ := Aside0.mk (below_step (by repeat (first | (with_reducible first | exact HB.out | apply below_alloc | apply pw_below_drewN | apply below_drew1) | exact HB.out)) hb)
                          clear HO141
                          clear HB
                          have HO141 := n0_
                          have HB := n1_
                          clear n0_ n1_
                          (try clear hb)
                          (try clear hb2)
                          (try clear hk)
                          (try clear hi)
                          refine hK.out _ _ trivial (fun hHeld => ?_)
                          clear hK K
                          refine norm_ (a' := ?_) ?_ ?_
                          rotate_left
                          · show Act.put _ (some 68) _ = _
                            simp only [Act.put, List.setIfInBounds_toArray, List.set_cons_zero, List.set_cons_succ, i64_w, i32_w]
                            rfl
                          refine pure_ (i := 12) (N := some 69) (v := ?_) (a' := ?_) #[true, true, true, true, true, true, true, true, true, true, true, true, true, false, false, false, false, false, false] rfl rfl (any_of HT_.out (by kernel_rfl)) (fun _ _ _ h => h) (Or.inl ⟨by rfl, ?_⟩) ?_ ?_
                          rotate_left
                          · intro w'
                            go_simp
                            with_reducible rfl
                          rotate_left
                          · simp only [Act.put, List.setIfInBounds_toArray, List.set_cons_zero, List.set_cons_succ, i64_w, i32_w]
                            rfl
                          refine pure_ (i := 13) (N := some 70) (v := ?_) (a' := ?_) #[true, true, true, true, true, true, true, true, true, true, true, true, true, true, false, false, false, false, false] rfl rfl (any_of HT_.out (by kernel_rfl)) (fun _ _ _ h => h) (Or.inl ⟨by rfl, ?_⟩) ?_ ?_
                          rotate_left
                          · intro w'
                            go_simp
                            with_reducible rfl
                          rotate_left
                          · simp only [Act.put, List.setIfInBounds_toArray, List.set_cons_zero, List.set_cons_succ, i64_w, i32_w]
                            rfl
                          refine pure_ (i := 14) (N := some 71) (v := ?_) (a' := ?_) #[true, true, true, true, true, true, true, true, true, true, true, true, true, true, true, false, false, false, false] rfl rfl (any_of HT_.out (by kernel_rfl)) (fun _ _ _ h => h) (Or.inl ⟨by rfl, ?_⟩) ?_ ?_
                          rotate_left
                          · intro w'
                            go_simp
                            with_reducible rfl
                          rotate_left
                          · simp only [Act.put, List.setIfInBounds_toArray, List.set_cons_zero, List.set_cons_succ, i64_w, i32_w]
                            rfl
                          refine pure_ (i := 15) (N := some 72) (v := ?_) (a' := ?_) #[true, true, true, true, true, true, true, true, true, true, true, true, true, true, true, true, false, false, false] rfl rfl (any_of HT_.out (by kernel_rfl)) (fun _ _ _ h => h) (Or.inl ⟨by rfl, ?_⟩) ?_ ?_
                          rotate_left
                          · intro w'
                            go_simp
                            with_reducible rfl
                          rotate_left
                          · simp only [Act.put, List.setIfInBounds_toArray, List.set_cons_zero, List.set_cons_succ, i64_w, i32_w]
                            rfl
                          refine pure_ (i := 16) (N := some 73) (v := ?_) (a' := ?_) #[true, true, true, true, true, true, true, true, true, true, true, true, true, true, true, true, true, false, false] rfl rfl (any_of HT_.out (by kernel_rfl)) (fun _ _ _ h => h) (Or.inl ⟨by rfl, ?_⟩) ?_ ?_
                          rotate_left
                          · intro w'
                            go_simp
                            with_reducible rfl
                          rotate_left
                          · simp only [Act.put, List.setIfInBounds_toArray, List.set_cons_zero, List.set_cons_succ, i64_w, i32_w]
                            rfl
                          refine pure_ (i := 17) (N := some 74) (v := ?_) (a' := ?_) #[true, true, true, true, true, true, true, true, true, true, true, true, true, true, true, true, true, true, false] rfl rfl (any_of HT_.out (by kernel_rfl)) (fun _ _ _ h => h) (Or.inl ⟨by rfl, ?_⟩) ?_ ?_
                          rotate_left
                          · intro w'
                            go_simp
                            with_reducible rfl
                          rotate_left
                          · simp only [Act.put, List.setIfInBounds_toArray, List.set_cons_zero, List.set_cons_succ, i64_w, i32_w]
                            rfl
                          refine pure_ (i := 18) (N := some 12) (v := ?_) (a' := ?_) #[true, true, true, true, true, true, true, true, true, true, true, true, true, true, true, true, true, true, true] rfl rfl (any_of HT_.out (by kernel_rfl)) (fun _ _ _ h => h) (Or.inl ⟨by rfl, ?_⟩) ?_ ?_
                          rotate_left
                          · intro w'
                            go_simp
                            with_reducible rfl
                          rotate_left
                          · simp only [Act.put, List.setIfInBounds_toArray, List.set_cons_zero, List.set_cons_succ, i64_w, i32_w]
                            rfl
                          refine done_ (done_of HT_.out (by kernel_rfl)) ?_
                          try go_wp2
                          go_ret
                          exact ⟨by first | rfl | (simp [errW_none, errW_some] <;> rfl) | (simp [*, errW_none, errW_some] <;> rfl), by repeat (first | (with_reducible first | exact HB.out | apply below_alloc | apply pw_below_drewN | apply below_drew1) | exact HB.out)⟩
                        · replace c22 := Bool.eq_false_iff.mpr c22
                          subst c22
                          have H1 : (some false) = some r := by rw [if_neg (show ¬ (false = true) by decide)] at H; exact H
                          clear H
                          have H := H1
                          clear H1
                          obtain rfl := Option.some.inj H
                          try go_wp2_with (first | ((with_reducible refine gate_dst (N := 27) rfl ?_); (try (refine gate_guard (by rfl) ?_; dsimp only)); refine Kd.R_lit k25 _ 25 ?hg (N := 27) ?hd (xs := ([(⟨false, 0, (⟨#[97, 98, 99]⟩ : ByteArray), ([] : List (S25))⟩ : S25)] : List (S25))) (inner := [.bool false, .int .u64 0, .string (⟨#[97, 98, 99]⟩ : ByteArray), .slice none 0 0]) (ok := fun _ => True) (okp := fun _ => True) ?hr ?hp (fun _ hk => hk) trivial (Below.refl _ _) (Nat.le_refl _) (by simp) ?_; (case hd => rfl); (case hg => rfl); (case hr => first | (go_simp; done) | (go_simp; rfl)); (case hp => exact (Reps.c4 (show Kd.M k25 _ _ _ (⟨false, 0, (⟨#[97, 98, 99]⟩ : ByteArray), ([] : List (S25))⟩ : S25) [.bool false, .int .u64 0, .string (⟨#[97, 98, 99]⟩ : ByteArray), .slice none 0 0] from (k25_mkM _ _ _ (⟨false, 0, (⟨#[97, 98, 99]⟩ : ByteArray), ([] : List (S25))⟩ : S25) (Kd.R_nil _ _ _ _ _))) (Reps.none _ _))); intro v140 w33 ho34 hb hg_ hnew_; clear hg_ hnew_; (first | rw [← Ny139.out] at ho34 | (simp only [Int.reduceToNat] at ho34; rw [← Ny139.out] at ho34)); have n0_ := Aside0.mk (Kd.R_lower ho34 (below_size (by repeat (first | (with_reducible first | exact HB.out | apply below_alloc | apply pw_below_drewN | apply below_drew1) | exact HB.out)))); have n1_ := Aside0.mk (below_step (by repeat (first | (with_reducible first | exact HB.out | apply below_alloc | apply pw_below_drewN | apply below_drew1) | exact HB.out)) hb); clear HB; have HO141 := n0_; have HB := n1_; clear n0_ n1_; clear hb ho34; obtain ⟨Ao35, co35, eo35⟩ := Kd.R_slice HO141.out; subst eo35) | ((with_reducible refine gate_callee (f := 4) rfl ?_); refine goesL_ (some 31) rfl rfl Tryz.func4 (by kernel_rfl) rfl #[.slice Ao35 y139.length co35, .int .i64 0, .int .i64 1, .slice Ao35 y139.length co35, .int .i64 0, .int .i64 1] rfl (by (try simp only [List.map_toArray, List.map_cons, List.map_nil]); first | done | rfl | (simp only [List.length_drop, List.length_take]; rfl)) ?_; (with_reducible refine (impl_SameFixedSizeBinary.calls _ _ y139 0 1 _ _ y139 0 1 false t143 _ ?side1 ?side2 ?side3 ?side4 A10.out ?sideG).mono ?_); (case sideG => exact Glob.below HGL_.out (by repeat (first | (with_reducible first | exact HB.out | apply below_alloc | apply pw_below_drewN | apply below_drew1) | exact HB.out))); (case side1 => repeat (first | exact (Kd.R_reads' HO141.out).2.2 | (with_reducible refine Kd.C_alloc ?_ _) | (with_reducible refine Kd.C_drewN ?_ _) | (with_reducible refine Kd.C_drew ?_))); (case side2 => exact (Kd.R_reads' HO141.out).2.1); (case side3 => repeat (first | exact (Kd.R_reads' HO141.out).2.2 | (with_reducible refine Kd.C_alloc ?_ _) | (with_reducible refine Kd.C_drewN ?_ _) | (with_reducible refine Kd.C_drew ?_))); (case side4 => exact (Kd.R_reads' HO141.out).2.1); rintro e w36 ⟨rfl, hb⟩; refine ⟨_, rfl, ?_⟩; have n0_ := Aside0.mk (Kd.R_below (by (with_reducible repeat (first | apply Kd.R_alloc | apply Kd.R_drewN | apply Kd.R_drew)); exact HO141.out) hb); have n1_ := Aside0.mk (below_step (by repeat (first | (with_reducible first | exact HB.out | apply below_alloc | apply pw_below_drewN | apply below_drew1) | exact HB.out)) hb); clear HO141; clear HB; have HO141 := n0_; have HB := n1_; clear n0_ n1_; (try clear hb); (try clear hb2); (try clear hk); (try clear hi)) | ((with_reducible refine gate_callee (f := 5) rfl ?_); refine goesL_ (some 41) rfl rfl Tryz.func5 (by kernel_rfl) rfl #[.agg #[.int .i64 15, .int .i64 3, .bool false, .int .i64 0, .int .i64 0, .int .i64 0, .string (⟨#[]⟩ : ByteArray), .bool false, .slice none 0 0, .slice none 0 0], .slice A0 l0.length c0, .int .i64 a1, .int .i64 a2, .slice A3 l3.length c3, .int .i64 a4, .int .i64 a5] rfl (by (try simp only [List.map_toArray, List.map_cons, List.map_nil]); first | done | rfl | (simp only [List.length_drop, List.length_take]; rfl)) ?_; (refine (laws_slices.calls kj6 15 3 false 0 0 0 (⟨#[]⟩ : ByteArray) false _ _ ([] : List Int) _ _ ([] : List Int) _ _ l0 a1 a2 _ _ l3 a4 a5 true _ ?side1 ?side2 ?side3 ?side4 ?side5 ?side6 ?side7 ?side8 A11.out).mono ?_); (case side1 => exact Kd.C_nil _ _); (case side2 => exact Nat.le_refl _); (case side3 => exact Kd.C_nil _ _); (case side4 => exact Nat.le_refl _); (case side5 => repeat (first | exact (Kd.C_below HR0.out HB.out) | (with_reducible refine Kd.C_alloc ?_ _) | (with_reducible refine Kd.C_drewN ?_ _) | (with_reducible refine Kd.C_drew ?_))); (case side6 => exact HC0.out); (case side7 => repeat (first | exact (Kd.C_below HR3.out HB.out) | (with_reducible refine Kd.C_alloc ?_ _) | (with_reducible refine Kd.C_drewN ?_ _) | (with_reducible refine Kd.C_drew ?_))); (case side8 => exact HC3.out); rintro e w37 ⟨rfl, hb⟩; refine ⟨_, rfl, ?_⟩; have n0_ := Aside0.mk (Kd.R_below (by (with_reducible repeat (first | apply Kd.R_alloc | apply Kd.R_drewN | apply Kd.R_drew)); exact HO141.out) hb); have n1_ := Aside0.mk (below_step (by repeat (first | (with_reducible first | exact HB.out | apply below_alloc | apply pw_below_drewN | apply below_drew1) | exact HB.out)) hb); clear HO141; clear HB; have HO141 := n0_; have HB := n1_; clear n0_ n1_; (try clear hb); (try clear hb2); (try clear hk); (try clear hi)) | ((with_reducible refine gate_callee (f := 4) rfl ?_); refine goesL_ (some 54) rfl rfl Tryz.func4 (by kernel_rfl) rfl #[.slice A0 l0.length c0, .int .i64 a1, .int .i64 a2, .slice A3 l3.length c3, .int .i64 a4, .int .i64 a5] rfl (by (try simp only [List.map_toArray, List.map_cons, List.map_nil]); first | done | rfl | (simp only [List.length_drop, List.length_take]; rfl)) ?_; (with_reducible refine (impl_SameFixedSizeBinary.calls _ _ l0 a1 a2 _ _ l3 a4 a5 t145 t146 _ ?side1 ?side2 ?side3 ?side4 A13.out ?sideG).mono ?_); (case sideG => exact Glob.below HGL_.out (by repeat (first | (with_reducible first | exact HB.out | apply below_alloc | apply pw_below_drewN | apply below_drew1) | exact HB.out))); (case side1 => repeat (first | exact (Kd.C_below HR0.out HB.out) | (with_reducible refine Kd.C_alloc ?_ _) | (with_reducible refine Kd.C_drewN ?_ _) | (with_reducible refine Kd.C_drew ?_))); (case side2 => exact HC0.out); (case side3 => repeat (first | exact (Kd.C_below HR3.out HB.out) | (with_reducible refine Kd.C_alloc ?_ _) | (with_reducible refine Kd.C_drewN ?_ _) | (with_reducible refine Kd.C_drew ?_))); (case side4 => exact HC3.out); rintro e w38 ⟨rfl, hb⟩; refine ⟨_, rfl, ?_⟩; have n0_ := Aside0.mk (Kd.R_below (by (with_reducible repeat (first | apply Kd.R_alloc | apply Kd.R_drewN | apply Kd.R_drew)); exact HO141.out) hb); have n1_ := Aside0.mk (below_step (by repeat (first | (with_reducible first | exact HB.out | apply below_alloc | apply pw_below_drewN | apply below_drew1) | exact HB.out)) hb); clear HO141; clear HB; have HO141 := n0_; have HB := n1_; clear n0_ n1_; (try clear hb); (try clear hb2); (try clear hk); (try clear hi)))
                          have n0_ := Aside0.mk (Kd.R_drew HO141.out)
                          have n1_ := Aside0.mk (below_drew1 HB.out)
                          clear HO141
                          clear HB
                          have HO141 := n0_
                          have HB := n1_
                          clear n0_ n1_
                          have q40 : (a2 : Int) ≤ ((l0.length : Int) : Int) := of_decide_eq_true (by first | (with_reducible assumption) | assumption)
                          obtain ⟨i040, hi040, _, hsz40, _⟩ := info_parts info25
                          have hroom40 : l0.length ≤ c0 := HC0.out
                          have hC40 : Kd.C k25 _ A0 l0.length l0 := HR0.out
                          have ql40 : (a1 : Int) ≤ (a2 : Int) := of_decide_eq_true (by first | (with_reducible assumption) | assumption)
                          have q040 : (0 : Int) ≤ (a1 : Int) := of_decide_eq_true (by first | (with_reducible assumption) | assumption)
                          have hcut40 := cut_mid (P := Tryz.prog) 22 25 .i64 .i64 Tryz.underlying22 hi040 4 hsz40 A0 l0.length c0 a1 a2 q040 ql40 q40 hroom40
                          have hr40 := Kd.C_mid (lo := (a1 : Int).toNat) (hi := (a2 : Int).toNat) (c := c0) hC40 (by omega) (by omega) hroom40
                          obtain ⟨A40, hA40⟩ : ∃ A1, A1 = (if c0 = (a1 : Int).toNat then A0 else (A0 : Option Addr).map (·.add ((a1 : Int).toNat * 4))) := ⟨_, rfl⟩
                          obtain ⟨c40, hc40⟩ : ∃ c1, c1 = c0 - (a1 : Int).toNat := ⟨_, rfl⟩
                          have hy40 : y147.length = (a2 : Int).toNat - (a1 : Int).toNat := (by rw [Ny147.out, List.length_drop, List.length_take] <;> omega)
                          rw [show ((l0).take (a2 : Int).toNat).drop (a1 : Int).toNat = y147 from Ny147.out.symm] at hr40
                          replace hr40 : Kd.C k25 _ A40 y147.length y147 := (by rw [hA40]; exact hr40)
                          rw [← hy40, ← hA40, ← hc40] at hcut40
                          have HR150 := Aside0.mk hr40
                          have HC150 := Aside0.mk (show y147.length ≤ c40 from by rw [hy40, hc40]; exact Nat.sub_le_sub_right (Nat.le_trans (by omega) hroom40) _)
                          clear hr40 hC40 hroom40 hi040 hsz40 hc40
                          have KY40 := Aside0.mk hy40
                          have KA40 := Aside0.mk hA40
                          clear hy40 hA40
                          replace q40 := eq_true q40
                          have q41 : (a5 : Int) ≤ ((l3.length : Int) : Int) := of_decide_eq_true (by first | (with_reducible assumption) | assumption)
                          obtain ⟨i041, hi041, _, hsz41, _⟩ := info_parts info25
                          have hroom41 : l3.length ≤ c3 := HC3.out
                          have hC41 : Kd.C k25 _ A3 l3.length l3 := HR3.out
                          have ql41 : (a4 : Int) ≤ (a5 : Int) := of_decide_eq_true (by first | (with_reducible assumption) | assumption)
                          have q041 : (0 : Int) ≤ (a4 : Int) := of_decide_eq_true (by first | (with_reducible assumption) | assumption)
                          have hcut41 := cut_mid (P := Tryz.prog) 22 25 .i64 .i64 Tryz.underlying22 hi041 4 hsz41 A3 l3.length c3 a4 a5 q041 ql41 q41 hroom41
                          have hr41 := Kd.C_mid (lo := (a4 : Int).toNat) (hi := (a5 : Int).toNat) (c := c3) hC41 (by omega) (by omega) hroom41
                          obtain ⟨A41, hA41⟩ : ∃ A1, A1 = (if c3 = (a4 : Int).toNat then A3 else (A3 : Option Addr).map (·.add ((a4 : Int).toNat * 4))) := ⟨_, rfl⟩
                          obtain ⟨c41, hc41⟩ : ∃ c1, c1 = c3 - (a4 : Int).toNat := ⟨_, rfl⟩
                          have hy41 : y151.length = (a5 : Int).toNat - (a4 : Int).toNat := (by rw [Ny151.out, List.length_drop, List.length_take] <;> omega)
                          rw [show ((l3).take (a5 : Int).toNat).drop (a4 : Int).toNat = y151 from Ny151.out.symm] at hr41
                          replace hr41 : Kd.C k25 _ A41 y151.length y151 := (by rw [hA41]; exact hr41)
                          rw [← hy41, ← hA41, ← hc41] at hcut41
                          have HR154 := Aside0.mk hr41
                          have HC154 := Aside0.mk (show y151.length ≤ c41 from by rw [hy41, hc41]; exact Nat.sub_le_sub_right (Nat.le_trans (by omega) hroom41) _)
                          clear hr41 hC41 hroom41 hi041 hsz41 hc41
                          have KY41 := Aside0.mk hy41
                          have KA41 := Aside0.mk hA41
                          clear hy41 hA41
                          replace q41 := eq_true q41
                          refine start_ (n := 19) (S := fun w' => True) (ds := []) #[false, false, false, false, false, false, false, false, false, false, false, false, false, false, false, false, false, false, false] (by kernel_rfl) rfl rfl trivial (fun hHeld => ?_); refine with_tabW laws_FnSameFixedSizeBinary.tab8 laws_FnSameFixedSizeBinary.bits8 (fun HT_ HW_ => ?_)
                          generalize w38.drew = w39 at HO141 HB HR150 HR154 hHeld ⊢
                          refine pure_ (i := 0) (N := some 57) (v := ?_) (a' := ?_) #[true, false, false, false, false, false, false, false, false, false, false, false, false, false, false, false, false, false, false] rfl rfl (any_of HT_.out (by kernel_rfl)) (fun _ _ _ h => h) (Or.inl ⟨by rfl, ?_⟩) ?_ ?_
                          rotate_left
                          · intro w'
                            go_simp
                            with_reducible rfl
                          rotate_left
                          · simp only [Act.put, List.setIfInBounds_toArray, List.set_cons_zero, List.set_cons_succ, i64_w, i32_w]
                            rfl
                          refine pure_ (i := 1) (N := some 58) (v := ?_) (a' := ?_) #[true, true, false, false, false, false, false, false, false, false, false, false, false, false, false, false, false, false, false] rfl rfl (any_of HT_.out (by kernel_rfl)) (fun _ _ _ h => h) (Or.inl ⟨by rfl, ?_⟩) ?_ ?_
                          rotate_left
                          · intro w'
                            go_simp
                            with_reducible rfl
                          rotate_left
                          · simp only [Act.put, List.setIfInBounds_toArray, List.set_cons_zero, List.set_cons_succ, i64_w, i32_w]
                            rfl
                          refine pure_ (i := 2) (N := some 59) (v := ?_) (a' := ?_) #[true, true, true, false, false, false, false, false, false, false, false, false, false, false, false, false, false, false, false] rfl rfl (any_of HT_.out (by kernel_rfl)) (fun _ _ _ h => h) (Or.inl ⟨by rfl, ?_⟩) ?_ ?_
                          rotate_left
                          · intro w'
                            go_simp
                            with_reducible rfl
                          rotate_left
                          · simp only [Act.put, List.setIfInBounds_toArray, List.set_cons_zero, List.set_cons_succ, i64_w, i32_w]
                            rfl
                          refine pure_ (i := 3) (N := some 60) (v := ?_) (a' := ?_) #[true, true, true, true, false, false, false, false, false, false, false, false, false, false, false, false, false, false, false] rfl rfl (any_of HT_.out (by kernel_rfl)) (fun _ _ _ h => h) (Or.inl ⟨by rfl, ?_⟩) ?_ ?_
                          rotate_left
                          · intro w'
                            go_simp
                            with_reducible rfl
                          rotate_left
                          · simp only [Act.put, List.setIfInBounds_toArray, List.set_cons_zero, List.set_cons_succ, i64_w, i32_w]
                            rfl
                          refine pure_ (i := 4) (N := some 61) (v := ?_) (a' := ?_) #[true, true, true, true, true, false, false, false, false, false, false, false, false, false, false, false, false, false, false] rfl rfl (any_of HT_.out (by kernel_rfl)) (fun _ _ _ h => h) (Or.inl ⟨by rfl, ?_⟩) ?_ ?_
                          rotate_left
                          · intro w'
                            go_simp
                            with_reducible rfl
                          rotate_left
                          · simp only [Act.put, List.setIfInBounds_toArray, List.set_cons_zero, List.set_cons_succ, i64_w, i32_w]
                            rfl
                          refine pure_ (i := 5) (N := some 62) (v := ?_) (a' := ?_) #[true, true, true, true, true, true, false, false, false, false, false, false, false, false, false, false, false, false, false] rfl rfl (any_of HT_.out (by kernel_rfl)) (fun _ _ _ h => h) (Or.inl ⟨by rfl, ?_⟩) ?_ ?_
                          rotate_left
                          · intro w'
                            go_simp
                            with_reducible rfl
                          rotate_left
                          · simp only [Act.put, List.setIfInBounds_toArray, List.set_cons_zero, List.set_cons_succ, i64_w, i32_w]
                            rfl
                          refine pure_ (i := 6) (N := some 63) (v := ?_) (a' := ?_) #[true, true, true, true, true, true, true, false, false, false, false, false, false, false, false, false, false, false, false] rfl rfl (any_of HT_.out (by kernel_rfl)) (fun _ _ _ h => h) (Or.inl ⟨by rfl, ?_⟩) ?_ ?_
                          rotate_left
                          · intro w'
                            go_simp
                            with_reducible rfl
                          rotate_left
                          · simp only [Act.put, List.setIfInBounds_toArray, List.set_cons_zero, List.set_cons_succ, i64_w, i32_w]
                            rfl
                          refine pure_ (i := 7) (N := some 64) (v := ?_) (a' := ?_) #[true, true, true, true, true, true, true, true, false, false, false, false, false, false, false, false, false, false, false] rfl rfl (any_of HT_.out (by kernel_rfl)) (fun _ _ _ h => h) (Or.inl ⟨by rfl, ?_⟩) ?_ ?_
                          rotate_left
                          · intro w'
                            go_simp
                            with_reducible rfl
                          rotate_left
                          · simp only [Act.put, List.setIfInBounds_toArray, List.set_cons_zero, List.set_cons_succ, i64_w, i32_w]
                            rfl
                          refine pure_ (i := 8) (N := some 65) (v := ?_) (a' := ?_) #[true, true, true, true, true, true, true, true, true, false, false, false, false, false, false, false, false, false, false] rfl rfl (any_of HT_.out (by kernel_rfl)) (fun _ _ _ h => h) (Or.inl ⟨by rfl, ?_⟩) ?_ ?_
                          rotate_left
                          · intro w'
                            go_simp
                            with_reducible rfl
                          rotate_left
                          · simp only [Act.put, List.setIfInBounds_toArray, List.set_cons_zero, List.set_cons_succ, i64_w, i32_w]
                            rfl
                          refine pure_ (i := 9) (N := some 66) (v := ?_) (a' := ?_) #[true, true, true, true, true, true, true, true, true, true, false, false, false, false, false, false, false, false, false] rfl rfl (any_of HT_.out (by kernel_rfl)) (fun _ _ _ h => h) (Or.inl ⟨by rfl, ?_⟩) ?_ ?_
                          rotate_left
                          · intro w'
                            go_simp
                            with_reducible rfl
                          rotate_left
                          · simp only [Act.put, List.setIfInBounds_toArray, List.set_cons_zero, List.set_cons_succ, i64_w, i32_w]
                            rfl
                          refine pure_ (i := 10) (N := some 67) (v := ?_) (a' := ?_) #[true, true, true, true, true, true, true, true, true, true, true, false, false, false, false, false, false, false, false] rfl rfl (any_of HT_.out (by kernel_rfl)) (fun _ _ _ h => h) (Or.inl ⟨by rfl, ?_⟩) ?_ ?_
                          rotate_left
                          · intro w'
                            go_simp
                            with_reducible rfl
                          rotate_left
                          · simp only [Act.put, List.setIfInBounds_toArray, List.set_cons_zero, List.set_cons_succ, i64_w, i32_w]
                            rfl
                          refine one_ (i := 11) (N := some 68) #[true, true, true, true, true, true, true, true, true, true, true, true, false, false, false, false, false, false, false] rfl rfl (one_of HT_.out (by kernel_rfl)) (by decide) (fun K hK => ?_)
                          refine goes_ Tryz.func6 (by kernel_rfl) rfl #[.agg #[.int .i64 15, .int .i64 3, .bool false, .int .i64 0, .int .i64 0, .int .i64 0, .string (⟨#[]⟩ : ByteArray), .bool false, .slice none 0 0, .slice none 0 0], .slice A40 y147.length c40, .slice A41 y151.length c41, .bool t145, .bool t146] (by rfl) rfl rfl (by (try simp only [List.map_toArray, List.map_cons, List.map_nil]); first | done | rfl | (simp only [List.length_drop, List.length_take]; rfl)) ?_
                          refine (laws_likewise.calls 15 3 false 0 0 0 (⟨#[]⟩ : ByteArray) false _ _ ([] : List Int) _ _ ([] : List Int) _ _ y147 _ _ y151 t145 t146 true _ ?side1 ?side2 ?side3 ?side4 ?side5 ?side6 ?side7 ?side8 A20.out ?sideG).mono ?_
                          (case sideG => exact Glob.below HGL_.out (by repeat (first | (with_reducible first | exact HB.out | apply below_alloc | apply pw_below_drewN | apply below_drew1) | exact HB.out)))
                          (case side1 => exact Kd.C_nil _ _)
                          (case side2 => exact Nat.le_refl _)
                          (case side3 => exact Kd.C_nil _ _)
                          (case side4 => exact Nat.le_refl _)
                          (case side5 => repeat (first | exact (Kd.C_below HR150.out HB.out) | (with_reducible refine Kd.C_alloc ?_ _) | (with_reducible refine Kd.C_drewN ?_ _) | (with_reducible refine Kd.C_drew ?_)))
                          (case side6 => exact HC150.out)
                          (case side7 => repeat (first | exact (Kd.C_below HR154.out HB.out) | (with_reducible refine Kd.C_alloc ?_ _) | (with_reducible refine Kd.C_drewN ?_ _) | (with_reducible refine Kd.C_drew ?_)))
                          (case side8 => exact HC154.out)
                          rintro e w42 ⟨rfl, hb⟩
                          refine ⟨_, rfl, ?_⟩
                          have n0_ := Aside0.mk (Kd.R_below (by (with_reducible repeat (first | apply Kd.R_alloc | apply Kd.R_drewN | apply Kd.R_drew)); exact HO141.out) hb)
                          have n1_ := Aside0.mk (below_step (by repeat (first | (with_reducible first | exact HB.out | apply below_alloc | apply pw_below_drewN | apply below_drew1) | exact HB.out)) hb)
                          clear HO141
                          clear HB
                          have HO141 := n0_
                          have HB := n1_
                          clear n0_ n1_
                          (try clear hb)
                          (try clear hb2)
                          (try clear hk)
                          (try clear hi)
                          refine hK.out _ _ trivial (fun hHeld => ?_)
                          clear hK K
                          refine norm_ (a' := ?_) ?_ ?_
                          rotate_left
                          · show Act.put _ (some 68) _ = _
                            simp only [Act.put, List.setIfInBounds_toArray, List.set_cons_zero, List.set_cons_succ, i64_w, i32_w]
                            rfl
                          refine pure_ (i := 12) (N := some 69) (v := ?_) (a' := ?_) #[true, true, true, true, true, true, true, true, true, true, true, true, true, false, false, false, false, false, false] rfl rfl (any_of HT_.out (by kernel_rfl)) (fun _ _ _ h => h) (Or.inl ⟨by rfl, ?_⟩) ?_ ?_
                          rotate_left
                          · intro w'
                            go_simp
                            with_reducible rfl
                          rotate_left
                          · simp only [Act.put, List.setIfInBounds_toArray, List.set_cons_zero, List.set_cons_succ, i64_w, i32_w]
                            rfl
                          refine pure_ (i := 13) (N := some 70) (v := ?_) (a' := ?_) #[true, true, true, true, true, true, true, true, true, true, true, true, true, true, false, false, false, false, false] rfl rfl (any_of HT_.out (by kernel_rfl)) (fun _ _ _ h => h) (Or.inl ⟨by rfl, ?_⟩) ?_ ?_
                          rotate_left
                          · intro w'
                            go_simp
                            with_reducible rfl
                          rotate_left
                          · simp only [Act.put, List.setIfInBounds_toArray, List.set_cons_zero, List.set_cons_succ, i64_w, i32_w]
                            rfl
                          refine pure_ (i := 14) (N := some 71) (v := ?_) (a' := ?_) #[true, true, true, true, true, true, true, true, true, true, true, true, true, true, true, false, false, false, false] rfl rfl (any_of HT_.out (by kernel_rfl)) (fun _ _ _ h => h) (Or.inl ⟨by rfl, ?_⟩) ?_ ?_
                          rotate_left
                          · intro w'
                            go_simp
                            with_reducible rfl
                          rotate_left
                          · simp only [Act.put, List.setIfInBounds_toArray, List.set_cons_zero, List.set_cons_succ, i64_w, i32_w]
                            rfl
                          refine pure_ (i := 15) (N := some 72) (v := ?_) (a' := ?_) #[true, true, true, true, true, true, true, true, true, true, true, true, true, true, true, true, false, false, false] rfl rfl (any_of HT_.out (by kernel_rfl)) (fun _ _ _ h => h) (Or.inl ⟨by rfl, ?_⟩) ?_ ?_
                          rotate_left
                          · intro w'
                            go_simp
                            with_reducible rfl
                          rotate_left
                          · simp only [Act.put, List.setIfInBounds_toArray, List.set_cons_zero, List.set_cons_succ, i64_w, i32_w]
                            rfl
                          refine pure_ (i := 16) (N := some 73) (v := undef) (a' := ?_) #[true, true, true, true, true, true, true, true, true, true, true, true, true, true, true, true, true, false, false] rfl rfl (any_of HT_.out (by kernel_rfl)) (fun _ _ _ h => h) (Or.inr ⟨by rfl, rfl⟩) ?_ ?_
                          rotate_left
                          · simp only [Act.put, List.setIfInBounds_toArray, List.set_cons_zero, List.set_cons_succ, i64_w, i32_w]
                            rfl
                          refine pure_ (i := 17) (N := some 74) (v := ?_) (a' := ?_) #[true, true, true, true, true, true, true, true, true, true, true, true, true, true, true, true, true, true, false] rfl rfl (any_of HT_.out (by kernel_rfl)) (fun _ _ _ h => h) (Or.inl ⟨by rfl, ?_⟩) ?_ ?_
                          rotate_left
                          · intro w'
                            go_simp
                            with_reducible rfl
                          rotate_left
                          · simp only [Act.put, List.setIfInBounds_toArray, List.set_cons_zero, List.set_cons_succ, i64_w, i32_w]
                            rfl
                          refine pure_ (i := 18) (N := some 12) (v := ?_) (a' := ?_) #[true, true, true, true, true, true, true, true, true, true, true, true, true, true, true, true, true, true, true] rfl rfl (any_of HT_.out (by kernel_rfl)) (fun _ _ _ h => h) (Or.inl ⟨by rfl, ?_⟩) ?_ ?_
                          rotate_left
                          · intro w'
                            go_simp
                            with_reducible rfl
                          rotate_left
                          · simp only [Act.put, List.setIfInBounds_toArray, List.set_cons_zero, List.set_cons_succ, i64_w, i32_w]
                            rfl
                          refine done_ (done_of HT_.out (by kernel_rfl)) ?_
                          try go_wp2
                          go_ret
                          exact ⟨by first | rfl | (simp [errW_none, errW_some] <;> rfl) | (simp [*, errW_none, errW_some] <;> rfl), by repeat (first | (with_reducible first | exact HB.out | apply below_alloc | apply pw_below_drewN | apply below_drew1) | exact HB.out)⟩
                      · replace c21 := Bool.eq_false_iff.mpr c21
                        subst c21
                        have H1 : (some false) = some r := by rw [if_neg (show ¬ (false = true) by decide)] at H; exact H
                        clear H
                        have H := H1
                        clear H1
                        obtain rfl := Option.some.inj H
                        try go_wp2_with (first | ((with_reducible refine gate_dst (N := 27) rfl ?_); (try (refine gate_guard (by rfl) ?_; dsimp only)); refine Kd.R_lit k25 _ 25 ?hg (N := 27) ?hd (xs := ([(⟨false, 0, (⟨#[97, 98, 99]⟩ : ByteArray), ([] : List (S25))⟩ : S25)] : List (S25))) (inner := [.bool false, .int .u64 0, .string (⟨#[97, 98, 99]⟩ : ByteArray), .slice none 0 0]) (ok := fun _ => True) (okp := fun _ => True) ?hr ?hp (fun _ hk => hk) trivial (Below.refl _ _) (Nat.le_refl _) (by simp) ?_; (case hd => rfl); (case hg => rfl); (case hr => first | (go_simp; done) | (go_simp; rfl)); (case hp => exact (Reps.c4 (show Kd.M k25 _ _ _ (⟨false, 0, (⟨#[97, 98, 99]⟩ : ByteArray), ([] : List (S25))⟩ : S25) [.bool false, .int .u64 0, .string (⟨#[97, 98, 99]⟩ : ByteArray), .slice none 0 0] from (k25_mkM _ _ _ (⟨false, 0, (⟨#[97, 98, 99]⟩ : ByteArray), ([] : List (S25))⟩ : S25) (Kd.R_nil _ _ _ _ _))) (Reps.none _ _))); intro v140 w43 ho44 hb hg_ hnew_; clear hg_ hnew_; (first | rw [← Ny139.out] at ho44 | (simp only [Int.reduceToNat] at ho44; rw [← Ny139.out] at ho44)); have n0_ := Aside0.mk (Kd.R_lower ho44 (below_size (by repeat (first | (with_reducible first | exact HB.out | apply below_alloc | apply pw_below_drewN | apply below_drew1) | exact HB.out)))); have n1_ := Aside0.mk (below_step (by repeat (first | (with_reducible first | exact HB.out | apply below_alloc | apply pw_below_drewN | apply below_drew1) | exact HB.out)) hb); clear HB; have HO141 := n0_; have HB := n1_; clear n0_ n1_; clear hb ho44; obtain ⟨Ao45, co45, eo45⟩ := Kd.R_slice HO141.out; subst eo45) | ((with_reducible refine gate_callee (f := 4) rfl ?_); refine goesL_ (some 31) rfl rfl Tryz.func4 (by kernel_rfl) rfl #[.slice Ao45 y139.length co45, .int .i64 0, .int .i64 1, .slice Ao45 y139.length co45, .int .i64 0, .int .i64 1] rfl (by (try simp only [List.map_toArray, List.map_cons, List.map_nil]); first | done | rfl | (simp only [List.length_drop, List.length_take]; rfl)) ?_; (with_reducible refine (impl_SameFixedSizeBinary.calls _ _ y139 0 1 _ _ y139 0 1 t142 t143 _ ?side1 ?side2 ?side3 ?side4 A10.out ?sideG).mono ?_); (case sideG => exact Glob.below HGL_.out (by repeat (first | (with_reducible first | exact HB.out | apply below_alloc | apply pw_below_drewN | apply below_drew1) | exact HB.out))); (case side1 => repeat (first | exact (Kd.R_reads' HO141.out).2.2 | (with_reducible refine Kd.C_alloc ?_ _) | (with_reducible refine Kd.C_drewN ?_ _) | (with_reducible refine Kd.C_drew ?_))); (case side2 => exact (Kd.R_reads' HO141.out).2.1); (case side3 => repeat (first | exact (Kd.R_reads' HO141.out).2.2 | (with_reducible refine Kd.C_alloc ?_ _) | (with_reducible refine Kd.C_drewN ?_ _) | (with_reducible refine Kd.C_drew ?_))); (case side4 => exact (Kd.R_reads' HO141.out).2.1); rintro e w46 ⟨rfl, hb⟩; refine ⟨_, rfl, ?_⟩; have n0_ := Aside0.mk (Kd.R_below (by (with_reducible repeat (first | apply Kd.R_alloc | apply Kd.R_drewN | apply Kd.R_drew)); exact HO141.out) hb); have n1_ := Aside0.mk (below_step (by repeat (first | (with_reducible first | exact HB.out | apply below_alloc | apply pw_below_drewN | apply below_drew1) | exact HB.out)) hb); clear HO141; clear HB; have HO141 := n0_; have HB := n1_; clear n0_ n1_; (try clear hb); (try clear hb2); (try clear hk); (try clear hi)) | ((with_reducible refine gate_callee (f := 5) rfl ?_); refine goesL_ (some 41) rfl rfl Tryz.func5 (by kernel_rfl) rfl #[.agg #[.int .i64 15, .int .i64 3, .bool false, .int .i64 0, .int .i64 0, .int .i64 0, .string (⟨#[]⟩ : ByteArray), .bool false, .slice none 0 0, .slice none 0 0], .slice A0 l0.length c0, .int .i64 a1, .int .i64 a2, .slice A3 l3.length c3, .int .i64 a4, .int .i64 a5] rfl (by (try simp only [List.map_toArray, List.map_cons, List.map_nil]); first | done | rfl | (simp only [List.length_drop, List.length_take]; rfl)) ?_; (refine (laws_slices.calls kj6 15 3 false 0 0 0 (⟨#[]⟩ : ByteArray) false _ _ ([] : List Int) _ _ ([] : List Int) _ _ l0 a1 a2 _ _ l3 a4 a5 true _ ?side1 ?side2 ?side3 ?side4 ?side5 ?side6 ?side7 ?side8 A11.out).mono ?_); (case side1 => exact Kd.C_nil _ _); (case side2 => exact Nat.le_refl _); (case side3 => exact Kd.C_nil _ _); (case side4 => exact Nat.le_refl _); (case side5 => repeat (first | exact (Kd.C_below HR0.out HB.out) | (with_reducible refine Kd.C_alloc ?_ _) | (with_reducible refine Kd.C_drewN ?_ _) | (with_reducible refine Kd.C_drew ?_))); (case side6 => exact HC0.out); (case side7 => repeat (first | exact (Kd.C_below HR3.out HB.out) | (with_reducible refine Kd.C_alloc ?_ _) | (with_reducible refine Kd.C_drewN ?_ _) | (with_reducible refine Kd.C_drew ?_))); (case side8 => exact HC3.out); rintro e w47 ⟨rfl, hb⟩; refine ⟨_, rfl, ?_⟩; have n0_ := Aside0.mk (Kd.R_below (by (with_reducible repeat (first | apply Kd.R_alloc | apply Kd.R_drewN | apply Kd.R_drew)); exact HO141.out) hb); have n1_ := Aside0.mk (below_step (by repeat (first | (with_reducible first | exact HB.out | apply below_alloc | apply pw_below_drewN | apply below_drew1) | exact HB.out)) hb); clear HO141; clear HB; have HO141 := n0_; have HB := n1_; clear n0_ n1_; (try clear hb); (try clear hb2); (try clear hk); (try clear hi)) | ((with_reducible refine gate_callee (f := 4) rfl ?_); refine goesL_ (some 54) rfl rfl Tryz.func4 (by kernel_rfl) rfl #[.slice A0 l0.length c0, .int .i64 a1, .int .i64 a2, .slice A3 l3.length c3, .int .i64 a4, .int .i64 a5] rfl (by (try simp only [List.map_toArray, List.map_cons, List.map_nil]); first | done | rfl | (simp only [List.length_drop, List.length_take]; rfl)) ?_; (with_reducible refine (impl_SameFixedSizeBinary.calls _ _ l0 a1 a2 _ _ l3 a4 a5 t145 t146 _ ?side1 ?side2 ?side3 ?side4 A13.out ?sideG).mono ?_); (case sideG => exact Glob.below HGL_.out (by repeat (first | (with_reducible first | exact HB.out | apply below_alloc | apply pw_below_drewN | apply below_drew1) | exact HB.out))); (case side1 => repeat (first | exact (Kd.C_below HR0.out HB.out) | (with_reducible refine Kd.C_alloc ?_ _) | (with_reducible refine Kd.C_drewN ?_ _) | (with_reducible refine Kd.C_drew ?_))); (case side2 => exact HC0.out); (case side3 => repeat (first | exact (Kd.C_below HR3.out HB.out) | (with_reducible refine Kd.C_alloc ?_ _) | (with_reducible refine Kd.C_drewN ?_ _) | (with_reducible refine Kd.C_drew ?_))); (case side4 => exact HC3.out); rintro e w48 ⟨rfl, hb⟩; refine ⟨_, rfl, ?_⟩; have n0_ := Aside0.mk (Kd.R_below (by (with_reducible repeat (first | apply Kd.R_alloc | apply Kd.R_drewN | apply Kd.R_drew)); exact HO141.out) hb); have n1_ := Aside0.mk (below_step (by repeat (first | (with_reducible first | exact HB.out | apply below_alloc | apply pw_below_drewN | apply below_drew1) | exact HB.out)) hb); clear HO141; clear HB; have HO141 := n0_; have HB := n1_; clear n0_ n1_; (try clear hb); (try clear hb2); (try clear hk); (try clear hi)))
                        have n0_ := Aside0.mk (Kd.R_drew HO141.out)
                        have n1_ := Aside0.mk (below_drew1 HB.out)
                        clear HO141
                        clear HB
                        have HO141 := n0_
                        have HB := n1_
                        clear n0_ n1_
                        have q50 : (a2 : Int) ≤ ((l0.length : Int) : Int) := of_decide_eq_true (by first | (with_reducible assumption) | assumption)
                        obtain ⟨i050, hi050, _, hsz50, _⟩ := info_parts info25
                        have hroom50 : l0.length ≤ c0 := HC0.out
                        have hC50 : Kd.C k25 _ A0 l0.length l0 := HR0.out
                        have ql50 : (a1 : Int) ≤ (a2 : Int) := of_decide_eq_true (by first | (with_reducible assumption) | assumption)
                        have q050 : (0 : Int) ≤ (a1 : Int) := of_decide_eq_true (by first | (with_reducible assumption) | assumption)
                        have hcut50 := cut_mid (P := Tryz.prog) 22 25 .i64 .i64 Tryz.underlying22 hi050 4 hsz50 A0 l0.length c0 a1 a2 q050 ql50 q50 hroom50
                        have hr50 := Kd.C_mid (lo := (a1 : Int).toNat) (hi := (a2 : Int).toNat) (c := c0) hC50 (by omega) (by omega) hroom50
                        obtain ⟨A50, hA50⟩ : ∃ A1, A1 = (if c0 = (a1 : Int).toNat then A0 else (A0 : Option Addr).map (·.add ((a1 : Int).toNat * 4))) := ⟨_, rfl⟩
                        obtain ⟨c50, hc50⟩ : ∃ c1, c1 = c0 - (a1 : Int).toNat := ⟨_, rfl⟩
                        have hy50 : y147.length = (a2 : Int).toNat - (a1 : Int).toNat := (by rw [Ny147.out, List.length_drop, List.length_take] <;> omega)
                        rw [show ((l0).take (a2 : Int).toNat).drop (a1 : Int).toNat = y147 from Ny147.out.symm] at hr50
                        replace hr50 : Kd.C k25 _ A50 y147.length y147 := (by rw [hA50]; exact hr50)
                        rw [← hy50, ← hA50, ← hc50] at hcut50
                        have HR150 := Aside0.mk hr50
                        have HC150 := Aside0.mk (show y147.length ≤ c50 from by rw [hy50, hc50]; exact Nat.sub_le_sub_right (Nat.le_trans (by omega) hroom50) _)
                        clear hr50 hC50 hroom50 hi050 hsz50 hc50
                        have KY50 := Aside0.mk hy50
                        have KA50 := Aside0.mk hA50
                        clear hy50 hA50
                        replace q50 := eq_true q50
                        have q51 : (a5 : Int) ≤ ((l3.length : Int) : Int) := of_decide_eq_true (by first | (with_reducible assumption) | assumption)
                        obtain ⟨i051, hi051, _, hsz51, _⟩ := info_parts info25
                        have hroom51 : l3.length ≤ c3 := HC3.out
                        have hC51 : Kd.C k25 _ A3 l3.length l3 := HR3.out
                        have ql51 : (a4 : Int) ≤ (a5 : Int) := of_decide_eq_true (by first | (with_reducible assumption) | assumption)
                        have q051 : (0 : Int) ≤ (a4 : Int) := of_decide_eq_true (by first | (with_reducible assumption) | assumption)
                        have hcut51 := cut_mid (P := Tryz.prog) 22 25 .i64 .i64 Tryz.underlying22 hi051 4 hsz51 A3 l3.length c3 a4 a5 q051 ql51 q51 hroom51
                        have hr51 := Kd.C_mid (lo := (a4 : Int).toNat) (hi := (a5 : Int).toNat) (c := c3) hC51 (by omega) (by omega) hroom51
                        obtain ⟨A51, hA51⟩ : ∃ A1, A1 = (if c3 = (a4 : Int).toNat then A3 else (A3 : Option Addr).map (·.add ((a4 : Int).toNat * 4))) := ⟨_, rfl⟩
                        obtain ⟨c51, hc51⟩ : ∃ c1, c1 = c3 - (a4 : Int).toNat := ⟨_, rfl⟩
                        have hy51 : y151.length = (a5 : Int).toNat - (a4 : Int).toNat := (by rw [Ny151.out, List.length_drop, List.length_take] <;> omega)
                        rw [show ((l3).take (a5 : Int).toNat).drop (a4 : Int).toNat = y151 from Ny151.out.symm] at hr51
                        replace hr51 : Kd.C k25 _ A51 y151.length y151 := (by rw [hA51]; exact hr51)
                        rw [← hy51, ← hA51, ← hc51] at hcut51
                        have HR154 := Aside0.mk hr51
                        have HC154 := Aside0.mk (show y151.length ≤ c51 from by rw [hy51, hc51]; exact Nat.sub_le_sub_right (Nat.le_trans (by omega) hroom51) _)
                        clear hr51 hC51 hroom51 hi051 hsz51 hc51
                        have KY51 := Aside0.mk hy51
                        have KA51 := Aside0.mk hA51
                        clear hy51 hA51
                        replace q51 := eq_true q51
                        refine start_ (n := 19) (S := fun w' => True) (ds := []) #[false, false, false, false, false, false, false, false, false, false, false, false, false, false, false, false, false, false, false] (by kernel_rfl) rfl rfl trivial (fun hHeld => ?_); refine with_tabW laws_FnSameFixedSizeBinary.tab8 laws_FnSameFixedSizeBinary.bits8 (fun HT_ HW_ => ?_)
                        generalize w48.drew = w49 at HO141 HB HR150 HR154 hHeld ⊢
                        refine pure_ (i := 0) (N := some 57) (v := ?_) (a' := ?_) #[true, false, false, false, false, false, false, false, false, false, false, false, false, false, false, false, false, false, false] rfl rfl (any_of HT_.out (by kernel_rfl)) (fun _ _ _ h => h) (Or.inl ⟨by rfl, ?_⟩) ?_ ?_
                        rotate_left
                        · intro w'
                          go_simp
                          with_reducible rfl
                        rotate_left
                        · simp only [Act.put, List.setIfInBounds_toArray, List.set_cons_zero, List.set_cons_succ, i64_w, i32_w]
                          rfl
                        refine pure_ (i := 1) (N := some 58) (v := ?_) (a' := ?_) #[true, true, false, false, false, false, false, false, false, false, false, false, false, false, false, false, false, false, false] rfl rfl (any_of HT_.out (by kernel_rfl)) (fun _ _ _ h => h) (Or.inl ⟨by rfl, ?_⟩) ?_ ?_
                        rotate_left
                        · intro w'
                          go_simp
                          with_reducible rfl
                        rotate_left
                        · simp only [Act.put, List.setIfInBounds_toArray, List.set_cons_zero, List.set_cons_succ, i64_w, i32_w]
                          rfl
                        refine pure_ (i := 2) (N := some 59) (v := ?_) (a' := ?_) #[true, true, true, false, false, false, false, false, false, false, false, false, false, false, false, false, false, false, false] rfl rfl (any_of HT_.out (by kernel_rfl)) (fun _ _ _ h => h) (Or.inl ⟨by rfl, ?_⟩) ?_ ?_
                        rotate_left
                        · intro w'
                          go_simp
                          with_reducible rfl
                        rotate_left
                        · simp only [Act.put, List.setIfInBounds_toArray, List.set_cons_zero, List.set_cons_succ, i64_w, i32_w]
                          rfl
                        refine pure_ (i := 3) (N := some 60) (v := ?_) (a' := ?_) #[true, true, true, true, false, false, false, false, false, false, false, false, false, false, false, false, false, false, false] rfl rfl (any_of HT_.out (by kernel_rfl)) (fun _ _ _ h => h) (Or.inl ⟨by rfl, ?_⟩) ?_ ?_
                        rotate_left
                        · intro w'
                          go_simp
                          with_reducible rfl
                        rotate_left
                        · simp only [Act.put, List.setIfInBounds_toArray, List.set_cons_zero, List.set_cons_succ, i64_w, i32_w]
                          rfl
                        refine pure_ (i := 4) (N := some 61) (v := ?_) (a' := ?_) #[true, true, true, true, true, false, false, false, false, false, false, false, false, false, false, false, false, false, false] rfl rfl (any_of HT_.out (by kernel_rfl)) (fun _ _ _ h => h) (Or.inl ⟨by rfl, ?_⟩) ?_ ?_
                        rotate_left
                        · intro w'
                          go_simp
                          with_reducible rfl
                        rotate_left
                        · simp only [Act.put, List.setIfInBounds_toArray, List.set_cons_zero, List.set_cons_succ, i64_w, i32_w]
                          rfl
                        refine pure_ (i := 5) (N := some 62) (v := ?_) (a' := ?_) #[true, true, true, true, true, true, false, false, false, false, false, false, false, false, false, false, false, false, false] rfl rfl (any_of HT_.out (by kernel_rfl)) (fun _ _ _ h => h) (Or.inl ⟨by rfl, ?_⟩) ?_ ?_
                        rotate_left
                        · intro w'
                          go_simp
                          with_reducible rfl
                        rotate_left
                        · simp only [Act.put, List.setIfInBounds_toArray, List.set_cons_zero, List.set_cons_succ, i64_w, i32_w]
                          rfl
                        refine pure_ (i := 6) (N := some 63) (v := ?_) (a' := ?_) #[true, true, true, true, true, true, true, false, false, false, false, false, false, false, false, false, false, false, false] rfl rfl (any_of HT_.out (by kernel_rfl)) (fun _ _ _ h => h) (Or.inl ⟨by rfl, ?_⟩) ?_ ?_
                        rotate_left
                        · intro w'
                          go_simp
                          with_reducible rfl
                        rotate_left
                        · simp only [Act.put, List.setIfInBounds_toArray, List.set_cons_zero, List.set_cons_succ, i64_w, i32_w]
                          rfl
                        refine pure_ (i := 7) (N := some 64) (v := ?_) (a' := ?_) #[true, true, true, true, true, true, true, true, false, false, false, false, false, false, false, false, false, false, false] rfl rfl (any_of HT_.out (by kernel_rfl)) (fun _ _ _ h => h) (Or.inl ⟨by rfl, ?_⟩) ?_ ?_
                        rotate_left
                        · intro w'
                          go_simp
                          with_reducible rfl
                        rotate_left
                        · simp only [Act.put, List.setIfInBounds_toArray, List.set_cons_zero, List.set_cons_succ, i64_w, i32_w]
                          rfl
                        refine pure_ (i := 8) (N := some 65) (v := ?_) (a' := ?_) #[true, true, true, true, true, true, true, true, true, false, false, false, false, false, false, false, false, false, false] rfl rfl (any_of HT_.out (by kernel_rfl)) (fun _ _ _ h => h) (Or.inl ⟨by rfl, ?_⟩) ?_ ?_
                        rotate_left
                        · intro w'
                          go_simp
                          with_reducible rfl
                        rotate_left
                        · simp only [Act.put, List.setIfInBounds_toArray, List.set_cons_zero, List.set_cons_succ, i64_w, i32_w]
                          rfl
                        refine pure_ (i := 9) (N := some 66) (v := ?_) (a' := ?_) #[true, true, true, true, true, true, true, true, true, true, false, false, false, false, false, false, false, false, false] rfl rfl (any_of HT_.out (by kernel_rfl)) (fun _ _ _ h => h) (Or.inl ⟨by rfl, ?_⟩) ?_ ?_
                        rotate_left
                        · intro w'
                          go_simp
                          with_reducible rfl
                        rotate_left
                        · simp only [Act.put, List.setIfInBounds_toArray, List.set_cons_zero, List.set_cons_succ, i64_w, i32_w]
                          rfl
                        refine pure_ (i := 10) (N := some 67) (v := ?_) (a' := ?_) #[true, true, true, true, true, true, true, true, true, true, true, false, false, false, false, false, false, false, false] rfl rfl (any_of HT_.out (by kernel_rfl)) (fun _ _ _ h => h) (Or.inl ⟨by rfl, ?_⟩) ?_ ?_
                        rotate_left
                        · intro w'
                          go_simp
                          with_reducible rfl
                        rotate_left
                        · simp only [Act.put, List.setIfInBounds_toArray, List.set_cons_zero, List.set_cons_succ, i64_w, i32_w]
                          rfl
                        refine one_ (i := 11) (N := some 68) #[true, true, true, true, true, true, true, true, true, true, true, true, false, false, false, false, false, false, false] rfl rfl (one_of HT_.out (by kernel_rfl)) (by decide) (fun K hK => ?_)
                        refine goes_ Tryz.func6 (by kernel_rfl) rfl #[.agg #[.int .i64 15, .int .i64 3, .bool false, .int .i64 0, .int .i64 0, .int .i64 0, .string (⟨#[]⟩ : ByteArray), .bool false, .slice none 0 0, .slice none 0 0], .slice A50 y147.length c50, .slice A51 y151.length c51, .bool t145, .bool t146] (by rfl) rfl rfl (by (try simp only [List.map_toArray, List.map_cons, List.map_nil]); first | done | rfl | (simp only [List.length_drop, List.length_take]; rfl)) ?_
                        refine (laws_likewise.calls 15 3 false 0 0 0 (⟨#[]⟩ : ByteArray) false _ _ ([] : List Int) _ _ ([] : List Int) _ _ y147 _ _ y151 t145 t146 false _ ?side1 ?side2 ?side3 ?side4 ?side5 ?side6 ?side7 ?side8 A20.out ?sideG).mono ?_
                        (case sideG => exact Glob.below HGL_.out (by repeat (first | (with_reducible first | exact HB.out | apply below_alloc | apply pw_below_drewN | apply below_drew1) | exact HB.out)))
                        (case side1 => exact Kd.C_nil _ _)
                        (case side2 => exact Nat.le_refl _)
                        (case side3 => exact Kd.C_nil _ _)
                        (case side4 => exact Nat.le_refl _)
                        (case side5 => repeat (first | exact (Kd.C_below HR150.out HB.out) | (with_reducible refine Kd.C_alloc ?_ _) | (with_reducible refine Kd.C_drewN ?_ _) | (with_reducible refine Kd.C_drew ?_)))
                        (case side6 => exact HC150.out)
                        (case side7 => repeat (first | exact (Kd.C_below HR154.out HB.out) | (with_reducible refine Kd.C_alloc ?_ _) | (with_reducible refine Kd.C_drewN ?_ _) | (with_reducible refine Kd.C_drew ?_)))
                        (case side8 => exact HC154.out)
                        rintro e w52 ⟨rfl, hb⟩
                        refine ⟨_, rfl, ?_⟩
                        have n0_ := Aside0.mk (Kd.R_below (by (with_reducible repeat (first | apply Kd.R_alloc | apply Kd.R_drewN | apply Kd.R_drew)); exact HO141.out) hb)
                        have n1_ := Aside0.mk (below_step (by repeat (first | (with_reducible first | exact HB.out | apply below_alloc | apply pw_below_drewN | apply below_drew1) | exact HB.out)) hb)
                        clear HO141
                        clear HB
                        have HO141 := n0_
                        have HB := n1_
                        clear n0_ n1_
                        (try clear hb)
                        (try clear hb2)
                        (try clear hk)
                        (try clear hi)
                        refine hK.out _ _ trivial (fun hHeld => ?_)
                        clear hK K
                        refine norm_ (a' := ?_) ?_ ?_
                        rotate_left
                        · show Act.put _ (some 68) _ = _
                          simp only [Act.put, List.setIfInBounds_toArray, List.set_cons_zero, List.set_cons_succ, i64_w, i32_w]
                          rfl
                        refine pure_ (i := 12) (N := some 69) (v := ?_) (a' := ?_) #[true, true, true, true, true, true, true, true, true, true, true, true, true, false, false, false, false, false, false] rfl rfl (any_of HT_.out (by kernel_rfl)) (fun _ _ _ h => h) (Or.inl ⟨by rfl, ?_⟩) ?_ ?_
                        rotate_left
                        · intro w'
                          go_simp
                          with_reducible rfl
                        rotate_left
                        · simp only [Act.put, List.setIfInBounds_toArray, List.set_cons_zero, List.set_cons_succ, i64_w, i32_w]
                          rfl
                        refine pure_ (i := 13) (N := some 70) (v := undef) (a' := ?_) #[true, true, true, true, true, true, true, true, true, true, true, true, true, true, false, false, false, false, false] rfl rfl (any_of HT_.out (by kernel_rfl)) (fun _ _ _ h => h) (Or.inr ⟨by rfl, rfl⟩) ?_ ?_
                        rotate_left
                        · simp only [Act.put, List.setIfInBounds_toArray, List.set_cons_zero, List.set_cons_succ, i64_w, i32_w]
                          rfl
                        refine pure_ (i := 14) (N := some 71) (v := ?_) (a' := ?_) #[true, true, true, true, true, true, true, true, true, true, true, true, true, true, true, false, false, false, false] rfl rfl (any_of HT_.out (by kernel_rfl)) (fun _ _ _ h => h) (Or.inl ⟨by rfl, ?_⟩) ?_ ?_
                        rotate_left
                        · intro w'
                          go_simp
                          with_reducible rfl
                        rotate_left
                        · simp only [Act.put, List.setIfInBounds_toArray, List.set_cons_zero, List.set_cons_succ, i64_w, i32_w]
                          rfl
                        refine pure_ (i := 15) (N := some 72) (v := ?_) (a' := ?_) #[true, true, true, true, true, true, true, true, true, true, true, true, true, true, true, true, false, false, false] rfl rfl (any_of HT_.out (by kernel_rfl)) (fun _ _ _ h => h) (Or.inl ⟨by rfl, ?_⟩) ?_ ?_
                        rotate_left
                        · intro w'
                          go_simp
                          with_reducible rfl
                        rotate_left
                        · simp only [Act.put, List.setIfInBounds_toArray, List.set_cons_zero, List.set_cons_succ, i64_w, i32_w]
                          rfl
                        refine pure_ (i := 16) (N := some 73) (v := undef) (a' := ?_) #[true, true, true, true, true, true, true, true, true, true, true, true, true, true, true, true, true, false, false] rfl rfl (any_of HT_.out (by kernel_rfl)) (fun _ _ _ h => h) (Or.inr ⟨by rfl, rfl⟩) ?_ ?_
                        rotate_left
                        · simp only [Act.put, List.setIfInBounds_toArray, List.set_cons_zero, List.set_cons_succ, i64_w, i32_w]
                          rfl
                        refine pure_ (i := 17) (N := some 74) (v := ?_) (a' := ?_) #[true, true, true, true, true, true, true, true, true, true, true, true, true, true, true, true, true, true, false] rfl rfl (any_of HT_.out (by kernel_rfl)) (fun _ _ _ h => h) (Or.inl ⟨by rfl, ?_⟩) ?_ ?_
                        rotate_left
                        · intro w'
                          go_simp
                          with_reducible rfl
                        rotate_left
                        · simp only [Act.put, List.setIfInBounds_toArray, List.set_cons_zero, List.set_cons_succ, i64_w, i32_w]
                          rfl
                        refine pure_ (i := 18) (N := some 12) (v := ?_) (a' := ?_) #[true, true, true, true, true, true, true, true, true, true, true, true, true, true, true, true, true, true, true] rfl rfl (any_of HT_.out (by kernel_rfl)) (fun _ _ _ h => h) (Or.inl ⟨by rfl, ?_⟩) ?_ ?_
                        rotate_left
                        · intro w'
                          go_simp
                          with_reducible rfl
                        rotate_left
                        · simp only [Act.put, List.setIfInBounds_toArray, List.set_cons_zero, List.set_cons_succ, i64_w, i32_w]
                          rfl
                        refine done_ (done_of HT_.out (by kernel_rfl)) ?_
                        try go_wp2
                        go_ret
                        exact ⟨by first | rfl | (simp [errW_none, errW_some] <;> rfl) | (simp [*, errW_none, errW_some] <;> rfl), by repeat (first | (with_reducible first | exact HB.out | apply below_alloc | apply pw_below_drewN | apply below_drew1) | exact HB.out)⟩
                    · rw [if_neg c19] at H
                      exact absurd H (by simp)
                  · rw [if_neg c18] at H
                    exact absurd H (by simp)
                · rw [if_neg c17] at H
                  exact absurd H (by simp)
              · rw [if_neg c16] at H
                exact absurd H (by simp)
            · rw [if_neg c15] at H
              exact absurd H (by simp)
          · rw [if_neg c14] at H
            exact absurd H (by simp)
        · replace c12 := Bool.eq_false_iff.mpr c12
          subst c12
          have H1 : (if t142 = true then (some t143) else (some false)) = some r := by rw [if_neg (show ¬ (false = true) by decide)] at H; exact H
          clear H
          have H := H1
          clear H1
          by_cases c53 : t142 = true
          · subst c53
            have H1 : (some t143) = some r := by rw [if_pos rfl] at H; exact H
            clear H
            have H := H1
            clear H1
            obtain rfl := Option.some.inj H
            go_wp2_with (first | ((with_reducible refine gate_dst (N := 27) rfl ?_); (try (refine gate_guard (by rfl) ?_; dsimp only)); refine Kd.R_lit k25 _ 25 ?hg (N := 27) ?hd (xs := ([(⟨false, 0, (⟨#[97, 98, 99]⟩ : ByteArray), ([] : List (S25))⟩ : S25)] : List (S25))) (inner := [.bool false, .int .u64 0, .string (⟨#[97, 98, 99]⟩ : ByteArray), .slice none 0 0]) (ok := fun _ => True) (okp := fun _ => True) ?hr ?hp (fun _ hk => hk) trivial (Below.refl _ _) (Nat.le_refl _) (by simp) ?_; (case hd => rfl); (case hg => rfl); (case hr => first | (go_simp; done) | (go_simp; rfl)); (case hp => exact (Reps.c4 (show Kd.M k25 _ _ _ (⟨false, 0, (⟨#[97, 98, 99]⟩ : ByteArray), ([] : List (S25))⟩ : S25) [.bool false, .int .u64 0, .string (⟨#[97, 98, 99]⟩ : ByteArray), .slice none 0 0] from (k25_mkM _ _ _ (⟨false, 0, (⟨#[97, 98, 99]⟩ : ByteArray), ([] : List (S25))⟩ : S25) (Kd.R_nil _ _ _ _ _))) (Reps.none _ _))); intro v140 w54 ho55 hb hg_ hnew_; clear hg_ hnew_; (first | rw [← Ny139.out] at ho55 | (simp only [Int.reduceToNat] at ho55; rw [← Ny139.out] at ho55)); have n0_ := Aside0.mk (Kd.R_lower ho55 (below_size (by repeat (first | (with_reducible first | exact HB.out | apply below_alloc | apply pw_below_drewN | apply below_drew1) | exact HB.out)))); have n1_ := Aside0.mk (below_step (by repeat (first | (with_reducible first | exact HB.out | apply below_alloc | apply pw_below_drewN | apply below_drew1) | exact HB.out)) hb); clear HB; have HO141 := n0_; have HB := n1_; clear n0_ n1_; clear hb ho55; obtain ⟨Ao56, co56, eo56⟩ := Kd.R_slice HO141.out; subst eo56) | ((with_reducible refine gate_callee (f := 4) rfl ?_); refine goesL_ (some 31) rfl rfl Tryz.func4 (by kernel_rfl) rfl #[.slice Ao56 y139.length co56, .int .i64 0, .int .i64 1, .slice Ao56 y139.length co56, .int .i64 0, .int .i64 1] rfl (by (try simp only [List.map_toArray, List.map_cons, List.map_nil]); first | done | rfl | (simp only [List.length_drop, List.length_take]; rfl)) ?_; (with_reducible refine (impl_SameFixedSizeBinary.calls _ _ y139 0 1 _ _ y139 0 1 true t143 _ ?side1 ?side2 ?side3 ?side4 A10.out ?sideG).mono ?_); (case sideG => exact Glob.below HGL_.out (by repeat (first | (with_reducible first | exact HB.out | apply below_alloc | apply pw_below_drewN | apply below_drew1) | exact HB.out))); (case side1 => repeat (first | exact (Kd.R_reads' HO141.out).2.2 | (with_reducible refine Kd.C_alloc ?_ _) | (with_reducible refine Kd.C_drewN ?_ _) | (with_reducible refine Kd.C_drew ?_))); (case side2 => exact (Kd.R_reads' HO141.out).2.1); (case side3 => repeat (first | exact (Kd.R_reads' HO141.out).2.2 | (with_reducible refine Kd.C_alloc ?_ _) | (with_reducible refine Kd.C_drewN ?_ _) | (with_reducible refine Kd.C_drew ?_))); (case side4 => exact (Kd.R_reads' HO141.out).2.1); rintro e w57 ⟨rfl, hb⟩; refine ⟨_, rfl, ?_⟩; have n0_ := Aside0.mk (Kd.R_below (by (with_reducible repeat (first | apply Kd.R_alloc | apply Kd.R_drewN | apply Kd.R_drew)); exact HO141.out) hb); have n1_ := Aside0.mk (below_step (by repeat (first | (with_reducible first | exact HB.out | apply below_alloc | apply pw_below_drewN | apply below_drew1) | exact HB.out)) hb); clear HO141; clear HB; have HO141 := n0_; have HB := n1_; clear n0_ n1_; (try clear hb); (try clear hb2); (try clear hk); (try clear hi)) | ((with_reducible refine gate_callee (f := 5) rfl ?_); refine goesL_ (some 41) rfl rfl Tryz.func5 (by kernel_rfl) rfl #[.agg #[.int .i64 15, .int .i64 3, .bool false, .int .i64 0, .int .i64 0, .int .i64 0, .string (⟨#[]⟩ : ByteArray), .bool false, .slice none 0 0, .slice none 0 0], .slice A0 l0.length c0, .int .i64 a1, .int .i64 a2, .slice A3 l3.length c3, .int .i64 a4, .int .i64 a5] rfl (by (try simp only [List.map_toArray, List.map_cons, List.map_nil]); first | done | rfl | (simp only [List.length_drop, List.length_take]; rfl)) ?_; (refine (laws_slices.calls kj6 15 3 false 0 0 0 (⟨#[]⟩ : ByteArray) false _ _ ([] : List Int) _ _ ([] : List Int) _ _ l0 a1 a2 _ _ l3 a4 a5 false _ ?side1 ?side2 ?side3 ?side4 ?side5 ?side6 ?side7 ?side8 A11.out).mono ?_); (case side1 => exact Kd.C_nil _ _); (case side2 => exact Nat.le_refl _); (case side3 => exact Kd.C_nil _ _); (case side4 => exact Nat.le_refl _); (case side5 => repeat (first | exact (Kd.C_below HR0.out HB.out) | (with_reducible refine Kd.C_alloc ?_ _) | (with_reducible refine Kd.C_drewN ?_ _) | (with_reducible refine Kd.C_drew ?_))); (case side6 => exact HC0.out); (case side7 => repeat (first | exact (Kd.C_below HR3.out HB.out) | (with_reducible refine Kd.C_alloc ?_ _) | (with_reducible refine Kd.C_drewN ?_ _) | (with_reducible refine Kd.C_drew ?_))); (case side8 => exact HC3.out); rintro e w58 ⟨rfl, hb⟩; refine ⟨_, rfl, ?_⟩; have n0_ := Aside0.mk (Kd.R_below (by (with_reducible repeat (first | apply Kd.R_alloc | apply Kd.R_drewN | apply Kd.R_drew)); exact HO141.out) hb); have n1_ := Aside0.mk (below_step (by repeat (first | (with_reducible first | exact HB.out | apply below_alloc | apply pw_below_drewN | apply below_drew1) | exact HB.out)) hb); clear HO141; clear HB; have HO141 := n0_; have HB := n1_; clear n0_ n1_; (try clear hb); (try clear hb2); (try clear hk); (try clear hi)))
            go_ret
            exact ⟨by first | rfl | (simp [errW_none, errW_some] <;> rfl) | (simp [*, errW_none, errW_some] <;> rfl), by repeat (first | (with_reducible first | exact HB.out | apply below_alloc | apply pw_below_drewN | apply below_drew1) | exact HB.out)⟩
          · replace c53 := Bool.eq_false_iff.mpr c53
            subst c53
            have H1 : (some false) = some r := by rw [if_neg (show ¬ (false = true) by decide)] at H; exact H
            clear H
            have H := H1
            clear H1
            obtain rfl := Option.some.inj H
            go_wp2_with (first | ((with_reducible refine gate_dst (N := 27) rfl ?_); (try (refine gate_guard (by rfl) ?_; dsimp only)); refine Kd.R_lit k25 _ 25 ?hg (N := 27) ?hd (xs := ([(⟨false, 0, (⟨#[97, 98, 99]⟩ : ByteArray), ([] : List (S25))⟩ : S25)] : List (S25))) (inner := [.bool false, .int .u64 0, .string (⟨#[97, 98, 99]⟩ : ByteArray), .slice none 0 0]) (ok := fun _ => True) (okp := fun _ => True) ?hr ?hp (fun _ hk => hk) trivial (Below.refl _ _) (Nat.le_refl _) (by simp) ?_; (case hd => rfl); (case hg => rfl); (case hr => first | (go_simp; done) | (go_simp; rfl)); (case hp => exact (Reps.c4 (show Kd.M k25 _ _ _ (⟨false, 0, (⟨#[97, 98, 99]⟩ : ByteArray), ([] : List (S25))⟩ : S25) [.bool false, .int .u64 0, .string (⟨#[97, 98, 99]⟩ : ByteArray), .slice none 0 0] from (k25_mkM _ _ _ (⟨false, 0, (⟨#[97, 98, 99]⟩ : ByteArray), ([] : List (S25))⟩ : S25) (Kd.R_nil _ _ _ _ _))) (Reps.none _ _))); intro v140 w59 ho60 hb hg_ hnew_; clear hg_ hnew_; (first | rw [← Ny139.out] at ho60 | (simp only [Int.reduceToNat] at ho60; rw [← Ny139.out] at ho60)); have n0_ := Aside0.mk (Kd.R_lower ho60 (below_size (by repeat (first | (with_reducible first | exact HB.out | apply below_alloc | apply pw_below_drewN | apply below_drew1) | exact HB.out)))); have n1_ := Aside0.mk (below_step (by repeat (first | (with_reducible first | exact HB.out | apply below_alloc | apply pw_below_drewN | apply below_drew1) | exact HB.out)) hb); clear HB; have HO141 := n0_; have HB := n1_; clear n0_ n1_; clear hb ho60; obtain ⟨Ao61, co61, eo61⟩ := Kd.R_slice HO141.out; subst eo61) | ((with_reducible refine gate_callee (f := 4) rfl ?_); refine goesL_ (some 31) rfl rfl Tryz.func4 (by kernel_rfl) rfl #[.slice Ao61 y139.length co61, .int .i64 0, .int .i64 1, .slice Ao61 y139.length co61, .int .i64 0, .int .i64 1] rfl (by (try simp only [List.map_toArray, List.map_cons, List.map_nil]); first | done | rfl | (simp only [List.length_drop, List.length_take]; rfl)) ?_; (with_reducible refine (impl_SameFixedSizeBinary.calls _ _ y139 0 1 _ _ y139 0 1 false t143 _ ?side1 ?side2 ?side3 ?side4 A10.out ?sideG).mono ?_); (case sideG => exact Glob.below HGL_.out (by repeat (first | (with_reducible first | exact HB.out | apply below_alloc | apply pw_below_drewN | apply below_drew1) | exact HB.out))); (case side1 => repeat (first | exact (Kd.R_reads' HO141.out).2.2 | (with_reducible refine Kd.C_alloc ?_ _) | (with_reducible refine Kd.C_drewN ?_ _) | (with_reducible refine Kd.C_drew ?_))); (case side2 => exact (Kd.R_reads' HO141.out).2.1); (case side3 => repeat (first | exact (Kd.R_reads' HO141.out).2.2 | (with_reducible refine Kd.C_alloc ?_ _) | (with_reducible refine Kd.C_drewN ?_ _) | (with_reducible refine Kd.C_drew ?_))); (case side4 => exact (Kd.R_reads' HO141.out).2.1); rintro e w62 ⟨rfl, hb⟩; refine ⟨_, rfl, ?_⟩; have n0_ := Aside0.mk (Kd.R_below (by (with_reducible repeat (first | apply Kd.R_alloc | apply Kd.R_drewN | apply Kd.R_drew)); exact HO141.out) hb); have n1_ := Aside0.mk (below_step (by repeat (first | (with_reducible first | exact HB.out | apply below_alloc | apply pw_below_drewN | apply below_drew1) | exact HB.out)) hb); clear HO141; clear HB; have HO141 := n0_; have HB := n1_; clear n0_ n1_; (try clear hb); (try clear hb2); (try clear hk); (try clear hi)) | ((with_reducible refine gate_callee (f := 5) rfl ?_); refine goesL_ (some 41) rfl rfl Tryz.func5 (by kernel_rfl) rfl #[.agg #[.int .i64 15, .int .i64 3, .bool false, .int .i64 0, .int .i64 0, .int .i64 0, .string (⟨#[]⟩ : ByteArray), .bool false, .slice none 0 0, .slice none 0 0], .slice A0 l0.length c0, .int .i64 a1, .int .i64 a2, .slice A3 l3.length c3, .int .i64 a4, .int .i64 a5] rfl (by (try simp only [List.map_toArray, List.map_cons, List.map_nil]); first | done | rfl | (simp only [List.length_drop, List.length_take]; rfl)) ?_; (refine (laws_slices.calls kj6 15 3 false 0 0 0 (⟨#[]⟩ : ByteArray) false _ _ ([] : List Int) _ _ ([] : List Int) _ _ l0 a1 a2 _ _ l3 a4 a5 false _ ?side1 ?side2 ?side3 ?side4 ?side5 ?side6 ?side7 ?side8 A11.out).mono ?_); (case side1 => exact Kd.C_nil _ _); (case side2 => exact Nat.le_refl _); (case side3 => exact Kd.C_nil _ _); (case side4 => exact Nat.le_refl _); (case side5 => repeat (first | exact (Kd.C_below HR0.out HB.out) | (with_reducible refine Kd.C_alloc ?_ _) | (with_reducible refine Kd.C_drewN ?_ _) | (with_reducible refine Kd.C_drew ?_))); (case side6 => exact HC0.out); (case side7 => repeat (first | exact (Kd.C_below HR3.out HB.out) | (with_reducible refine Kd.C_alloc ?_ _) | (with_reducible refine Kd.C_drewN ?_ _) | (with_reducible refine Kd.C_drew ?_))); (case side8 => exact HC3.out); rintro e w63 ⟨rfl, hb⟩; refine ⟨_, rfl, ?_⟩; have n0_ := Aside0.mk (Kd.R_below (by (with_reducible repeat (first | apply Kd.R_alloc | apply Kd.R_drewN | apply Kd.R_drew)); exact HO141.out) hb); have n1_ := Aside0.mk (below_step (by repeat (first | (with_reducible first | exact HB.out | apply below_alloc | apply pw_below_drewN | apply below_drew1) | exact HB.out)) hb); clear HO141; clear HB; have HO141 := n0_; have HB := n1_; clear n0_ n1_; (try clear hb); (try clear hb2); (try clear hk); (try clear hi)))
            go_ret
            exact ⟨by first | rfl | (simp [errW_none, errW_some] <;> rfl) | (simp [*, errW_none, errW_some] <;> rfl), by repeat (first | (with_reducible first | exact HB.out | apply below_alloc | apply pw_below_drewN | apply below_drew1) | exact HB.out)⟩

end Go.Proofs.YtndbeeboehekaaaGreatDoor.Q
