/- spec.ToWords as printed: its functions and tables. -/
import Derived.Test.YtgomeiepiajpeaaGreatQS32a
import Derived.Test.YtgomeiepiajpeaaGreatQS32b
import Derived.Test.YtgomeiepiajpeaaGreatQS32c
import Derived.Test.YtgomeiepiajpeaaGreatQS32d
namespace Go.Proofs.YtgomeiepiajpeaaGreat.Q
open Go.RowKit Go.Proofs.YtgomeiepiajpeaaGreatW.PrintWords Go.Proofs.YtgomeiepiajpeaaGreatW.PrintLast Go.Proofs.YtgomeiepiajpeaaGreatW.PrintMore
attribute [local go_sem] max2_int min2_int max_two min_two max_three min_three max_four min_four
set_option linter.unusedVariables false
set_option linter.unusedSimpArgs false

/-! ### spec_ToWords: function 17 -/
mutual
def spec_ToWords.j0 : Nat → Int → Bool → Bool → List Int → Option (List Int × Bool)
  | 0, _, _, _, _ => none
  | k + 1, x1, x7, x339000, x339001 => if x339000 = true then ((spec_Two.f k (wrap64 (64 * x1))).bind fun bt350 => ((spec_WideDiv.f k x339000 x339001 bt350.1 bt350.2).bind fun bt354 => ((spec_Two.f k (wrap64 (64 * x1))).bind fun bt364 => ((spec_WideAdd.f k bt354.2.2.1 bt354.2.2.2 bt364.1 bt364.2).bind fun bt368 => (if 0 ≤ x1 then (if (x1 : Int).toNat ≤ 35184372088832 then ((some (List.replicate (x1 : Int).toNat 0 : List Int)).bind fun y372 => (spec_ToWords.l0 k x7 y372 (y372.length : Int) 0 bt368.1 bt368.2)) else (none)) else (none)))))) else (if 0 ≤ x1 then (if (x1 : Int).toNat ≤ 35184372088832 then ((some (List.replicate (x1 : Int).toNat 0 : List Int)).bind fun y378 => (spec_ToWords.l2 k x7 y378 (y378.length : Int) 0 x339000 x339001)) else (none)) else (none))
def spec_ToWords.l0 : Nat → Bool → List Int → Int → Int → Bool → List Int → Option (List Int × Bool)
  | 0, _, _, _, _, _, _ => none
  | k + 1, x7, x10, x46, x47, x339000, x339001 => if x47 < x46 then (spec_ToWords.l1 k x7 x10 x47 0 x46 x47 x339000 x339001) else (some (x10, x7))
def spec_ToWords.l1 : Nat → Bool → List Int → Int → Int → Int → Int → Bool → List Int → Option (List Int × Bool)
  | 0, _, _, _, _, _, _, _, _ => none
  | k + 1, x7, x10, x11, x12, x46, x47, x339000, x339001 => if x12 < 2 then (if (wrap64 ((wrap64 (2 * x11)) + x12)) < (x339001.length : Int) then (if 0 ≤ x11 then (if x11 < (x10.length : Int) then (if 0 ≤ (wrap64 ((wrap64 (2 * x11)) + x12)) then (if 0 ≤ (wrap64 (32 * x12)) then (spec_ToWords.l1 k x7 (x10.set (x11 : Int).toNat (Go.bits .or .u64 (rd x10 x11) (shl .u64 (IntKind.u64.wrap (rd x339001 (wrap64 ((wrap64 (2 * x11)) + x12)))) (wrap64 (32 * x12))))) x11 (wrap64 (x12 + 1)) x46 x47 x339000 x339001) else (none)) else (none)) else (none)) else (none)) else (spec_ToWords.l1 k x7 x10 x11 (wrap64 (x12 + 1)) x46 x47 x339000 x339001)) else (spec_ToWords.l0 k x7 x10 x46 (wrap64 (x47 + 1)) x339000 x339001)
def spec_ToWords.l2 : Nat → Bool → List Int → Int → Int → Bool → List Int → Option (List Int × Bool)
  | 0, _, _, _, _, _, _ => none
  | k + 1, x7, x10, x46, x47, x339000, x339001 => if x47 < x46 then (spec_ToWords.l3 k x7 x10 x47 0 x46 x47 x339000 x339001) else (some (x10, x7))
def spec_ToWords.l3 : Nat → Bool → List Int → Int → Int → Int → Int → Bool → List Int → Option (List Int × Bool)
  | 0, _, _, _, _, _, _, _, _ => none
  | k + 1, x7, x10, x11, x12, x46, x47, x339000, x339001 => if x12 < 2 then (if (wrap64 ((wrap64 (2 * x11)) + x12)) < (x339001.length : Int) then (if 0 ≤ x11 then (if x11 < (x10.length : Int) then (if 0 ≤ (wrap64 ((wrap64 (2 * x11)) + x12)) then (if 0 ≤ (wrap64 (32 * x12)) then (spec_ToWords.l3 k x7 (x10.set (x11 : Int).toNat (Go.bits .or .u64 (rd x10 x11) (shl .u64 (IntKind.u64.wrap (rd x339001 (wrap64 ((wrap64 (2 * x11)) + x12)))) (wrap64 (32 * x12))))) x11 (wrap64 (x12 + 1)) x46 x47 x339000 x339001) else (none)) else (none)) else (none)) else (none)) else (spec_ToWords.l3 k x7 x10 x11 (wrap64 (x12 + 1)) x46 x47 x339000 x339001)) else (spec_ToWords.l2 k x7 x10 x46 (wrap64 (x47 + 1)) x339000 x339001)
end
def spec_ToWords.f (k : Nat) (a0_0 : Bool) (l0_1 : List Int) (a1 : Int) : Option (List Int × Bool) := (spec_Two.f k (wrap64 ((wrap64 (64 * a1)) - 1))).bind fun bt339 => ((spec_WideCmp.f k a0_0 l0_1 bt339.1 bt339.2).bind fun t344 => (if t344 < 0 then ((spec_Wide_Negated.f k bt339.1 bt339.2).bind fun bt345 => ((spec_WideCmp.f k a0_0 l0_1 bt345.1 bt345.2).bind fun t349 => (spec_ToWords.j0 k a1 (decide (t349 ≥ 0)) a0_0 l0_1))) else (spec_ToWords.j0 k a1 false a0_0 l0_1)))
theorem spec_ToWords.mono_l : ∀ k, (∀ y0 y1 y2 y3, LeO (spec_ToWords.j0 k y0 y1 y2 y3) (spec_ToWords.j0 (k + 1) y0 y1 y2 y3)) ∧ (∀ y0 y1 y2 y3 y4 y5, LeO (spec_ToWords.l0 k y0 y1 y2 y3 y4 y5) (spec_ToWords.l0 (k + 1) y0 y1 y2 y3 y4 y5)) ∧ (∀ y0 y1 y2 y3 y4 y5 y6 y7, LeO (spec_ToWords.l1 k y0 y1 y2 y3 y4 y5 y6 y7) (spec_ToWords.l1 (k + 1) y0 y1 y2 y3 y4 y5 y6 y7)) ∧ (∀ y0 y1 y2 y3 y4 y5, LeO (spec_ToWords.l2 k y0 y1 y2 y3 y4 y5) (spec_ToWords.l2 (k + 1) y0 y1 y2 y3 y4 y5)) ∧ (∀ y0 y1 y2 y3 y4 y5 y6 y7, LeO (spec_ToWords.l3 k y0 y1 y2 y3 y4 y5 y6 y7) (spec_ToWords.l3 (k + 1) y0 y1 y2 y3 y4 y5 y6 y7))
  | 0 => ⟨fun _ _ _ _ r h => by simp [spec_ToWords.j0] at h, fun _ _ _ _ _ _ r h => by simp [spec_ToWords.l0] at h, fun _ _ _ _ _ _ _ _ r h => by simp [spec_ToWords.l1] at h, fun _ _ _ _ _ _ r h => by simp [spec_ToWords.l2] at h, fun _ _ _ _ _ _ _ _ r h => by simp [spec_ToWords.l3] at h⟩
  | k + 1 => by
    obtain ⟨ih0, ih1, ih2, ih3, ih4⟩ := spec_ToWords.mono_l k
    refine ⟨?_, ?_, ?_, ?_, ?_⟩
    · intro y0 y1 y2 y3
      unfold spec_ToWords.j0
      repeat' first
      | (with_reducible exact ih0 _ _ _ _)
      | (with_reducible exact ih1 _ _ _ _ _ _)
      | (with_reducible exact ih2 _ _ _ _ _ _ _ _)
      | (with_reducible exact ih3 _ _ _ _ _ _)
      | (with_reducible exact ih4 _ _ _ _ _ _ _ _)
      | (with_reducible exact spec_Two.mono _ _)
      | (with_reducible exact spec_WideAdd.mono _ _ _ _ _)
      | (with_reducible exact spec_WideCmp.mono _ _ _ _ _)
      | (with_reducible exact spec_WideDiv.mono _ _ _ _ _)
      | (with_reducible exact spec_Wide_Negated.mono _ _ _)
      | (with_reducible exact LeO.refl _)
      | (with_reducible exact LeO.none _)
      | (with_reducible refine LeO.ite ?_ ?_)
      | (with_reducible refine LeO.bind ?_ (fun _ => ?_))
      | exact ih0 _ _ _ _
      | exact ih1 _ _ _ _ _ _
      | exact ih2 _ _ _ _ _ _ _ _
      | exact ih3 _ _ _ _ _ _
      | exact ih4 _ _ _ _ _ _ _ _
      | exact spec_Two.mono _ _
      | exact spec_WideAdd.mono _ _ _ _ _
      | exact spec_WideCmp.mono _ _ _ _ _
      | exact spec_WideDiv.mono _ _ _ _ _
      | exact spec_Wide_Negated.mono _ _ _
      | exact LeO.none _
      | refine LeO.ite ?_ ?_
      | refine LeO.bind ?_ (fun _ => ?_)
    · intro y0 y1 y2 y3 y4 y5
      unfold spec_ToWords.l0
      repeat' first
      | (with_reducible exact ih0 _ _ _ _)
      | (with_reducible exact ih1 _ _ _ _ _ _)
      | (with_reducible exact ih2 _ _ _ _ _ _ _ _)
      | (with_reducible exact ih3 _ _ _ _ _ _)
      | (with_reducible exact ih4 _ _ _ _ _ _ _ _)
      | (with_reducible exact spec_Two.mono _ _)
      | (with_reducible exact spec_WideAdd.mono _ _ _ _ _)
      | (with_reducible exact spec_WideCmp.mono _ _ _ _ _)
      | (with_reducible exact spec_WideDiv.mono _ _ _ _ _)
      | (with_reducible exact spec_Wide_Negated.mono _ _ _)
      | (with_reducible exact LeO.refl _)
      | (with_reducible exact LeO.none _)
      | (with_reducible refine LeO.ite ?_ ?_)
      | (with_reducible refine LeO.bind ?_ (fun _ => ?_))
      | exact ih0 _ _ _ _
      | exact ih1 _ _ _ _ _ _
      | exact ih2 _ _ _ _ _ _ _ _
      | exact ih3 _ _ _ _ _ _
      | exact ih4 _ _ _ _ _ _ _ _
      | exact spec_Two.mono _ _
      | exact spec_WideAdd.mono _ _ _ _ _
      | exact spec_WideCmp.mono _ _ _ _ _
      | exact spec_WideDiv.mono _ _ _ _ _
      | exact spec_Wide_Negated.mono _ _ _
      | exact LeO.none _
      | refine LeO.ite ?_ ?_
      | refine LeO.bind ?_ (fun _ => ?_)
    · intro y0 y1 y2 y3 y4 y5 y6 y7
      unfold spec_ToWords.l1
      repeat' first
      | (with_reducible exact ih0 _ _ _ _)
      | (with_reducible exact ih1 _ _ _ _ _ _)
      | (with_reducible exact ih2 _ _ _ _ _ _ _ _)
      | (with_reducible exact ih3 _ _ _ _ _ _)
      | (with_reducible exact ih4 _ _ _ _ _ _ _ _)
      | (with_reducible exact spec_Two.mono _ _)
      | (with_reducible exact spec_WideAdd.mono _ _ _ _ _)
      | (with_reducible exact spec_WideCmp.mono _ _ _ _ _)
      | (with_reducible exact spec_WideDiv.mono _ _ _ _ _)
      | (with_reducible exact spec_Wide_Negated.mono _ _ _)
      | (with_reducible exact LeO.refl _)
      | (with_reducible exact LeO.none _)
      | (with_reducible refine LeO.ite ?_ ?_)
      | (with_reducible refine LeO.bind ?_ (fun _ => ?_))
      | exact ih0 _ _ _ _
      | exact ih1 _ _ _ _ _ _
      | exact ih2 _ _ _ _ _ _ _ _
      | exact ih3 _ _ _ _ _ _
      | exact ih4 _ _ _ _ _ _ _ _
      | exact spec_Two.mono _ _
      | exact spec_WideAdd.mono _ _ _ _ _
      | exact spec_WideCmp.mono _ _ _ _ _
      | exact spec_WideDiv.mono _ _ _ _ _
      | exact spec_Wide_Negated.mono _ _ _
      | exact LeO.none _
      | refine LeO.ite ?_ ?_
      | refine LeO.bind ?_ (fun _ => ?_)
    · intro y0 y1 y2 y3 y4 y5
      unfold spec_ToWords.l2
      repeat' first
      | (with_reducible exact ih0 _ _ _ _)
      | (with_reducible exact ih1 _ _ _ _ _ _)
      | (with_reducible exact ih2 _ _ _ _ _ _ _ _)
      | (with_reducible exact ih3 _ _ _ _ _ _)
      | (with_reducible exact ih4 _ _ _ _ _ _ _ _)
      | (with_reducible exact spec_Two.mono _ _)
      | (with_reducible exact spec_WideAdd.mono _ _ _ _ _)
      | (with_reducible exact spec_WideCmp.mono _ _ _ _ _)
      | (with_reducible exact spec_WideDiv.mono _ _ _ _ _)
      | (with_reducible exact spec_Wide_Negated.mono _ _ _)
      | (with_reducible exact LeO.refl _)
      | (with_reducible exact LeO.none _)
      | (with_reducible refine LeO.ite ?_ ?_)
      | (with_reducible refine LeO.bind ?_ (fun _ => ?_))
      | exact ih0 _ _ _ _
      | exact ih1 _ _ _ _ _ _
      | exact ih2 _ _ _ _ _ _ _ _
      | exact ih3 _ _ _ _ _ _
      | exact ih4 _ _ _ _ _ _ _ _
      | exact spec_Two.mono _ _
      | exact spec_WideAdd.mono _ _ _ _ _
      | exact spec_WideCmp.mono _ _ _ _ _
      | exact spec_WideDiv.mono _ _ _ _ _
      | exact spec_Wide_Negated.mono _ _ _
      | exact LeO.none _
      | refine LeO.ite ?_ ?_
      | refine LeO.bind ?_ (fun _ => ?_)
    · intro y0 y1 y2 y3 y4 y5 y6 y7
      unfold spec_ToWords.l3
      repeat' first
      | (with_reducible exact ih0 _ _ _ _)
      | (with_reducible exact ih1 _ _ _ _ _ _)
      | (with_reducible exact ih2 _ _ _ _ _ _ _ _)
      | (with_reducible exact ih3 _ _ _ _ _ _)
      | (with_reducible exact ih4 _ _ _ _ _ _ _ _)
      | (with_reducible exact spec_Two.mono _ _)
      | (with_reducible exact spec_WideAdd.mono _ _ _ _ _)
      | (with_reducible exact spec_WideCmp.mono _ _ _ _ _)
      | (with_reducible exact spec_WideDiv.mono _ _ _ _ _)
      | (with_reducible exact spec_Wide_Negated.mono _ _ _)
      | (with_reducible exact LeO.refl _)
      | (with_reducible exact LeO.none _)
      | (with_reducible refine LeO.ite ?_ ?_)
      | (with_reducible refine LeO.bind ?_ (fun _ => ?_))
      | exact ih0 _ _ _ _
      | exact ih1 _ _ _ _ _ _
      | exact ih2 _ _ _ _ _ _ _ _
      | exact ih3 _ _ _ _ _ _
      | exact ih4 _ _ _ _ _ _ _ _
      | exact spec_Two.mono _ _
      | exact spec_WideAdd.mono _ _ _ _ _
      | exact spec_WideCmp.mono _ _ _ _ _
      | exact spec_WideDiv.mono _ _ _ _ _
      | exact spec_Wide_Negated.mono _ _ _
      | exact LeO.none _
      | refine LeO.ite ?_ ?_
      | refine LeO.bind ?_ (fun _ => ?_)
theorem spec_ToWords.mono : ∀ a0 a1 a2 k, LeO (spec_ToWords.f k a0 a1 a2) (spec_ToWords.f (k + 1) a0 a1 a2) := by
  intro a0 a1 a2 k
  obtain ⟨ih0, ih1, ih2, ih3, ih4⟩ := spec_ToWords.mono_l k
  unfold spec_ToWords.f
  repeat' first
      | (with_reducible exact ih0 _ _ _ _)
      | (with_reducible exact ih1 _ _ _ _ _ _)
      | (with_reducible exact ih2 _ _ _ _ _ _ _ _)
      | (with_reducible exact ih3 _ _ _ _ _ _)
      | (with_reducible exact ih4 _ _ _ _ _ _ _ _)
      | (with_reducible exact spec_Two.mono _ _)
      | (with_reducible exact spec_WideAdd.mono _ _ _ _ _)
      | (with_reducible exact spec_WideCmp.mono _ _ _ _ _)
      | (with_reducible exact spec_WideDiv.mono _ _ _ _ _)
      | (with_reducible exact spec_Wide_Negated.mono _ _ _)
      | (with_reducible exact LeO.refl _)
      | (with_reducible exact LeO.none _)
      | (with_reducible refine LeO.ite ?_ ?_)
      | (with_reducible refine LeO.bind ?_ (fun _ => ?_))
      | exact ih0 _ _ _ _
      | exact ih1 _ _ _ _ _ _
      | exact ih2 _ _ _ _ _ _ _ _
      | exact ih3 _ _ _ _ _ _
      | exact ih4 _ _ _ _ _ _ _ _
      | exact spec_Two.mono _ _
      | exact spec_WideAdd.mono _ _ _ _ _
      | exact spec_WideCmp.mono _ _ _ _ _
      | exact spec_WideDiv.mono _ _ _ _ _
      | exact spec_Wide_Negated.mono _ _ _
      | exact LeO.none _
      | refine LeO.ite ?_ ?_
      | refine LeO.bind ?_ (fun _ => ?_)
def spec_ToWords.T2 : Bool × List (List Nat × List Nat) := (true, [([], []), ([], []), ([0, 1], [0, 1]), ([2], [2]), ([3, 2], [3]), ([4], [4]), ([4], [4]), ([6, 4, 4], [4, 6]), ([5, 7, 7, 4], [4, 5, 7]), ([8, 4], [4, 8]), ([4, 9], [4, 9]), ([10, 8, 0, 1, 2, 3, 4, 5, 6, 7, 8, 9, 10], [10])])
def spec_ToWords.B2 : List Nat := [0, 0, 3, 7, 15, 31, 31, 95, 255, 511, 1023, 2047]
theorem spec_ToWords.tab2 : rtab .any (opsOf Tryz.f17 2) = spec_ToWords.T2 := by kernel_rfl
theorem spec_ToWords.bits2 : waitsOk spec_ToWords.T2.2 spec_ToWords.B2 = true := by kernel_rfl
def spec_ToWords.T4 : Bool × List (List Nat × List Nat) := (true, [([], []), ([], []), ([1], [1]), ([2], [2]), ([0, 3, 3], [0, 3]), ([4], [4]), ([5], [5]), ([5], [5]), ([], []), ([], []), ([8, 6, 4, 0, 1, 2, 3, 4, 5, 6, 8, 9], [6, 8]), ([9, 7, 10, 0, 1, 2, 3, 4, 5, 6, 7, 8, 9, 10], [7, 9])])
def spec_ToWords.B4 : List Nat := [0, 0, 2, 6, 15, 31, 63, 63, 0, 0, 895, 2047]
theorem spec_ToWords.tab4 : rtab .any (opsOf Tryz.f17 4) = spec_ToWords.T4 := by kernel_rfl
theorem spec_ToWords.bits4 : waitsOk spec_ToWords.T4.2 spec_ToWords.B4 = true := by kernel_rfl
def spec_ToWords.T14 : Bool × List (List Nat × List Nat) := (true, [([], []), ([], []), ([0, 1], [0, 1]), ([2], [2]), ([], []), ([4], [4]), ([], []), ([6], [6]), ([], []), ([7, 8], [7, 8]), ([5, 9], [5, 9]), ([10], [10]), ([11], [11]), ([], []), ([13], [13]), ([12, 14], [12, 14]), ([3, 15], [3, 15]), ([0, 1, 0, 1, 2, 3, 4, 5, 6, 7, 8, 9, 10, 11, 12, 13, 14, 15, 16], [0, 1]), ([17, 16, 0, 1, 2, 3, 4, 5, 6, 7, 8, 9, 10, 11, 12, 13, 14, 15, 16], [16, 17])])
def spec_ToWords.B14 : List Nat := [0, 0, 3, 7, 0, 16, 0, 64, 0, 448, 1008, 2032, 4080, 0, 8192, 32752, 65535, 131071, 262143]
theorem spec_ToWords.tab14 : rtab .any (opsOf Tryz.f17 14) = spec_ToWords.T14 := by kernel_rfl
theorem spec_ToWords.bits14 : waitsOk spec_ToWords.T14.2 spec_ToWords.B14 = true := by kernel_rfl
end Go.Proofs.YtgomeiepiajpeaaGreat.Q
