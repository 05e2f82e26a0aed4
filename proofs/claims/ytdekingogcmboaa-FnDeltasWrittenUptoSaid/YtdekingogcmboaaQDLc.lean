-- written by programs of ours (wip/tools) out of the kit's printer: the functions of one law, less those that are shared or proved by hand
import Derived.Test.YtdekingogcmboaaQ0
import Derived.Test.YtdekingogcmboaaQDLb
namespace Go.Proofs.Ytdekingogcmboaa.Q
open Go.RowKit Go.Proofs.YtdekingogcmboaaW.PrintWords Go.Proofs.YtdekingogcmboaaW.PrintLast Go.Proofs.YtdekingogcmboaaW.PrintMore
attribute [local go_sem] max2_int min2_int max_two min_two max_three min_three max_four min_four
set_option linter.unusedVariables false
set_option linter.unusedSimpArgs false

/-! ### spec_Deltas: function 8 -/
mutual
def spec_Deltas.j0 : Nat → List Int → Int → List Int → Int → Int → Int → Int → Int → Bool → Option (List Int × Int × Bool)
  | 0, _, _, _, _, _, _, _, _, _ => none
  | k + 1, x0, x1, x4, x7, x8, x10, x12, x14, x100 => if x100 = true then (some (([] : List Int), 0, false)) else (if x12 = 0 then (some (([] : List Int), x8, true)) else ((spec_unzig.f x14).bind fun t161 => ((spec_wrapTo.f t161 x1).bind fun t162 => (if x4.length < 17592186044416 then (spec_Deltas.l0 k x0 x1 (x4 ++ [t162]) x7 x8 x10 x12 t162) else (none)))))
def spec_Deltas.l0 : Nat → List Int → Int → List Int → Int → Int → Int → Int → Int → Option (List Int × Int × Bool)
  | 0, _, _, _, _, _, _, _, _ => none
  | k + 1, x0, x1, x4, x7, x8, x10, x12, x16 => if (x4.length : Int) < (wrap64 (x12)) then ((spec_leb.f k x0 x8).bind fun bt166 => (if bt166.2.2 = true then (spec_Deltas.j2 k x0 x1 x4 x7 x10 x12 x16 bt166.1 bt166.2.1 (decide ((wrap64 (bt166.2.1 + (wrap64 (x10)))) > (x0.length : Int)))) else (spec_Deltas.j2 k x0 x1 x4 x7 x10 x12 x16 bt166.1 bt166.2.1 true))) else (some (x4, x8, true))
def spec_Deltas.j2 : Nat → List Int → Int → List Int → Int → Int → Int → Int → Int → Int → Bool → Option (List Int × Int × Bool)
  | 0, _, _, _, _, _, _, _, _, _, _ => none
  | k + 1, x0, x1, x4, x7, x10, x12, x16, x17, x18, x134 => if x134 = true then (some (([] : List Int), 0, false)) else (if 0 ≤ x18 then (if x18 ≤ (wrap64 (x18 + (wrap64 (x10)))) then (if (wrap64 (x18 + (wrap64 (x10)))) ≤ (x0.length : Int) then (spec_Deltas.l1 k x0 x1 x4 x7 (wrap64 (x18 + (wrap64 (x10)))) x10 x12 x16 x17 ((x0.take ((wrap64 (x18 + (wrap64 (x10)))) : Int).toNat).drop (x18 : Int).toNat) (((x0.take ((wrap64 (x18 + (wrap64 (x10)))) : Int).toNat).drop (x18 : Int).toNat).length : Int) 0) else (none)) else (none)) else (none))
def spec_Deltas.l1 : Nat → List Int → Int → List Int → Int → Int → Int → Int → Int → Int → List Int → Int → Int → Option (List Int × Int × Bool)
  | 0, _, _, _, _, _, _, _, _, _, _, _, _ => none
  | k + 1, x0, x1, x4, x7, x8, x10, x12, x16, x17, x146, x147, x148 => if x148 < x147 then (if 0 ≤ x148 then (if x148 < (x146.length : Int) then (if (x4.length : Int) = (wrap64 (x12)) then (spec_Deltas.l0 k x0 x1 x4 x7 x8 x10 x12 x16) else (if x10 = 0 then (none) else (if (wrap64 (rd x146 x148)) > x1 then (spec_Deltas.j4 k x0 x1 x4 x7 x8 x10 x12 x16 x17 (rd x146 x148) (wrap64 (IntKind.u64.wrap (Int.tdiv x7 x10))) (wrap64 (Int.tdiv (wrap64 ((wrap64 (IntKind.u64.wrap (Int.tdiv x7 x10))) * (wrap64 (rd x146 x148)))) 8)) x146 x147 x148 true) else (spec_Deltas.j4 k x0 x1 x4 x7 x8 x10 x12 x16 x17 (rd x146 x148) (wrap64 (IntKind.u64.wrap (Int.tdiv x7 x10))) (wrap64 (Int.tdiv (wrap64 ((wrap64 (IntKind.u64.wrap (Int.tdiv x7 x10))) * (wrap64 (rd x146 x148)))) 8)) x146 x147 x148 (decide ((wrap64 (x8 + (wrap64 (Int.tdiv (wrap64 ((wrap64 (IntKind.u64.wrap (Int.tdiv x7 x10))) * (wrap64 (rd x146 x148)))) 8)))) > (x0.length : Int))))))) else (none)) else (none)) else (spec_Deltas.l0 k x0 x1 x4 x7 x8 x10 x12 x16)
def spec_Deltas.j4 : Nat → List Int → Int → List Int → Int → Int → Int → Int → Int → Int → Int → Int → Int → List Int → Int → Int → Bool → Option (List Int × Int × Bool)
  | 0, _, _, _, _, _, _, _, _, _, _, _, _, _, _, _, _ => none
  | k + 1, x0, x1, x4, x7, x8, x10, x12, x16, x17, x22, x23, x24, x146, x147, x148, x177 => if x177 = true then (some (([] : List Int), 0, false)) else (spec_Deltas.l2 k x0 x1 x4 x7 x8 x10 x12 x16 x17 x22 x23 x24 0 x146 x147 x148)
def spec_Deltas.l2 : Nat → List Int → Int → List Int → Int → Int → Int → Int → Int → Int → Int → Int → Int → Int → List Int → Int → Int → Option (List Int × Int × Bool)
  | 0, _, _, _, _, _, _, _, _, _, _, _, _, _, _, _, _ => none
  | k + 1, x0, x1, x4, x7, x8, x10, x12, x16, x17, x22, x23, x24, x25, x146, x147, x148 => if x25 < x23 then (spec_Deltas.j6 k x0 x1 x4 x7 x8 x10 x12 x16 x17 x22 x23 x24 x25 x146 x147 x148 (decide ((x4.length : Int) < (wrap64 (x12))))) else (spec_Deltas.j6 k x0 x1 x4 x7 x8 x10 x12 x16 x17 x22 x23 x24 x25 x146 x147 x148 false)
def spec_Deltas.j6 : Nat → List Int → Int → List Int → Int → Int → Int → Int → Int → Int → Int → Int → Int → Int → List Int → Int → Int → Bool → Option (List Int × Int × Bool)
  | 0, _, _, _, _, _, _, _, _, _, _, _, _, _, _, _, _, _ => none
  | k + 1, x0, x1, x4, x7, x8, x10, x12, x16, x17, x22, x23, x24, x25, x146, x147, x148, x187 => if x187 = true then ((spec_unzig.f x17).bind fun t171 => (if 0 ≤ x8 then (if x8 ≤ (wrap64 (x8 + x24)) then (if (wrap64 (x8 + x24)) ≤ (x0.length : Int) then ((spec_packedAt.f k ((x0.take ((wrap64 (x8 + x24)) : Int).toNat).drop (x8 : Int).toNat) x25 (wrap64 (x22))).bind fun t173 => ((spec_wrapTo.f (wrap64 ((wrap64 (x16 + t171)) + (wrap64 (t173)))) x1).bind fun t174 => (if x4.length < 17592186044416 then (spec_Deltas.l2 k x0 x1 (x4 ++ [t174]) x7 x8 x10 x12 t174 x17 x22 x23 x24 (wrap64 (x25 + 1)) x146 x147 x148) else (none)))) else (none)) else (none)) else (none))) else (spec_Deltas.l1 k x0 x1 x4 x7 (wrap64 (x8 + x24)) x10 x12 x16 x17 x146 x147 (wrap64 (x148 + 1)))
end
def spec_Deltas.f (k : Nat) (l0 : List Int) (a1 : Int) : Option (List Int × Int × Bool) := (spec_leb.f k l0 0).bind fun bt149 => ((spec_leb.f k l0 bt149.2.1).bind fun bt152 => ((spec_leb.f k l0 bt152.2.1).bind fun bt155 => ((spec_leb.f k l0 bt155.2.1).bind fun bt158 => (if bt149.2.2 = true then (if bt152.2.2 = true then (if bt155.2.2 = true then (if bt158.2.2 = true then (if bt149.1 = 0 then (spec_Deltas.j0 k l0 a1 ([] : List Int) bt149.1 bt158.2.1 bt152.1 bt155.1 bt158.1 true) else (if (Int.tmod bt149.1 128) = 0 then (if bt149.1 > 1048576 then (spec_Deltas.j0 k l0 a1 ([] : List Int) bt149.1 bt158.2.1 bt152.1 bt155.1 bt158.1 true) else (if bt152.1 = 0 then (spec_Deltas.j0 k l0 a1 ([] : List Int) bt149.1 bt158.2.1 bt152.1 bt155.1 bt158.1 true) else (if (Int.tmod bt149.1 bt152.1) = 0 then (if (Int.tmod (IntKind.u64.wrap (Int.tdiv bt149.1 bt152.1)) 32) = 0 then (spec_Deltas.j0 k l0 a1 ([] : List Int) bt149.1 bt158.2.1 bt152.1 bt155.1 bt158.1 (decide (bt155.1 > 1048576))) else (spec_Deltas.j0 k l0 a1 ([] : List Int) bt149.1 bt158.2.1 bt152.1 bt155.1 bt158.1 true)) else (spec_Deltas.j0 k l0 a1 ([] : List Int) bt149.1 bt158.2.1 bt152.1 bt155.1 bt158.1 true)))) else (spec_Deltas.j0 k l0 a1 ([] : List Int) bt149.1 bt158.2.1 bt152.1 bt155.1 bt158.1 true))) else (spec_Deltas.j0 k l0 a1 ([] : List Int) bt149.1 bt158.2.1 bt152.1 bt155.1 bt158.1 true)) else (spec_Deltas.j0 k l0 a1 ([] : List Int) bt149.1 bt158.2.1 bt152.1 bt155.1 bt158.1 true)) else (spec_Deltas.j0 k l0 a1 ([] : List Int) bt149.1 bt158.2.1 bt152.1 bt155.1 bt158.1 true)) else (spec_Deltas.j0 k l0 a1 ([] : List Int) bt149.1 bt158.2.1 bt152.1 bt155.1 bt158.1 true)))))
theorem spec_Deltas.mono_l : ∀ k, (∀ y0 y1 y2 y3 y4 y5 y6 y7 y8, LeO (spec_Deltas.j0 k y0 y1 y2 y3 y4 y5 y6 y7 y8) (spec_Deltas.j0 (k + 1) y0 y1 y2 y3 y4 y5 y6 y7 y8)) ∧ (∀ y0 y1 y2 y3 y4 y5 y6 y7, LeO (spec_Deltas.l0 k y0 y1 y2 y3 y4 y5 y6 y7) (spec_Deltas.l0 (k + 1) y0 y1 y2 y3 y4 y5 y6 y7)) ∧ (∀ y0 y1 y2 y3 y4 y5 y6 y7 y8 y9, LeO (spec_Deltas.j2 k y0 y1 y2 y3 y4 y5 y6 y7 y8 y9) (spec_Deltas.j2 (k + 1) y0 y1 y2 y3 y4 y5 y6 y7 y8 y9)) ∧ (∀ y0 y1 y2 y3 y4 y5 y6 y7 y8 y9 y10 y11, LeO (spec_Deltas.l1 k y0 y1 y2 y3 y4 y5 y6 y7 y8 y9 y10 y11) (spec_Deltas.l1 (k + 1) y0 y1 y2 y3 y4 y5 y6 y7 y8 y9 y10 y11)) ∧ (∀ y0 y1 y2 y3 y4 y5 y6 y7 y8 y9 y10 y11 y12 y13 y14 y15, LeO (spec_Deltas.j4 k y0 y1 y2 y3 y4 y5 y6 y7 y8 y9 y10 y11 y12 y13 y14 y15) (spec_Deltas.j4 (k + 1) y0 y1 y2 y3 y4 y5 y6 y7 y8 y9 y10 y11 y12 y13 y14 y15)) ∧ (∀ y0 y1 y2 y3 y4 y5 y6 y7 y8 y9 y10 y11 y12 y13 y14 y15, LeO (spec_Deltas.l2 k y0 y1 y2 y3 y4 y5 y6 y7 y8 y9 y10 y11 y12 y13 y14 y15) (spec_Deltas.l2 (k + 1) y0 y1 y2 y3 y4 y5 y6 y7 y8 y9 y10 y11 y12 y13 y14 y15)) ∧ (∀ y0 y1 y2 y3 y4 y5 y6 y7 y8 y9 y10 y11 y12 y13 y14 y15 y16, LeO (spec_Deltas.j6 k y0 y1 y2 y3 y4 y5 y6 y7 y8 y9 y10 y11 y12 y13 y14 y15 y16) (spec_Deltas.j6 (k + 1) y0 y1 y2 y3 y4 y5 y6 y7 y8 y9 y10 y11 y12 y13 y14 y15 y16))
  | 0 => ⟨fun _ _ _ _ _ _ _ _ _ r h => by simp [spec_Deltas.j0] at h, fun _ _ _ _ _ _ _ _ r h => by simp [spec_Deltas.l0] at h, fun _ _ _ _ _ _ _ _ _ _ r h => by simp [spec_Deltas.j2] at h, fun _ _ _ _ _ _ _ _ _ _ _ _ r h => by simp [spec_Deltas.l1] at h, fun _ _ _ _ _ _ _ _ _ _ _ _ _ _ _ _ r h => by simp [spec_Deltas.j4] at h, fun _ _ _ _ _ _ _ _ _ _ _ _ _ _ _ _ r h => by simp [spec_Deltas.l2] at h, fun _ _ _ _ _ _ _ _ _ _ _ _ _ _ _ _ _ r h => by simp [spec_Deltas.j6] at h⟩
  | k + 1 => by
    obtain ⟨ih0, ih1, ih2, ih3, ih4, ih5, ih6⟩ := spec_Deltas.mono_l k
    refine ⟨?_, ?_, ?_, ?_, ?_, ?_, ?_⟩
    · intro y0 y1 y2 y3 y4 y5 y6 y7 y8
      unfold spec_Deltas.j0
      repeat' first
      | (with_reducible exact ih0 _ _ _ _ _ _ _ _ _)
      | (with_reducible exact ih1 _ _ _ _ _ _ _ _)
      | (with_reducible exact ih2 _ _ _ _ _ _ _ _ _ _)
      | (with_reducible exact ih3 _ _ _ _ _ _ _ _ _ _ _ _)
      | (with_reducible exact ih4 _ _ _ _ _ _ _ _ _ _ _ _ _ _ _ _)
      | (with_reducible exact ih5 _ _ _ _ _ _ _ _ _ _ _ _ _ _ _ _)
      | (with_reducible exact ih6 _ _ _ _ _ _ _ _ _ _ _ _ _ _ _ _ _)
      | (with_reducible exact spec_leb.mono _ _ _)
      | (with_reducible exact spec_packedAt.mono _ _ _ _)
      | (with_reducible exact LeO.refl _)
      | (with_reducible exact LeO.none _)
      | (with_reducible refine LeO.ite ?_ ?_)
      | (with_reducible refine LeO.bind ?_ (fun _ => ?_))
      | exact ih0 _ _ _ _ _ _ _ _ _
      | exact ih1 _ _ _ _ _ _ _ _
      | exact ih2 _ _ _ _ _ _ _ _ _ _
      | exact ih3 _ _ _ _ _ _ _ _ _ _ _ _
      | exact ih4 _ _ _ _ _ _ _ _ _ _ _ _ _ _ _ _
      | exact ih5 _ _ _ _ _ _ _ _ _ _ _ _ _ _ _ _
      | exact ih6 _ _ _ _ _ _ _ _ _ _ _ _ _ _ _ _ _
      | exact spec_leb.mono _ _ _
      | exact spec_packedAt.mono _ _ _ _
      | exact LeO.none _
      | refine LeO.ite ?_ ?_
      | refine LeO.bind ?_ (fun _ => ?_)
    · intro y0 y1 y2 y3 y4 y5 y6 y7
      unfold spec_Deltas.l0
      repeat' first
      | (with_reducible exact ih0 _ _ _ _ _ _ _ _ _)
      | (with_reducible exact ih1 _ _ _ _ _ _ _ _)
      | (with_reducible exact ih2 _ _ _ _ _ _ _ _ _ _)
      | (with_reducible exact ih3 _ _ _ _ _ _ _ _ _ _ _ _)
      | (with_reducible exact ih4 _ _ _ _ _ _ _ _ _ _ _ _ _ _ _ _)
      | (with_reducible exact ih5 _ _ _ _ _ _ _ _ _ _ _ _ _ _ _ _)
      | (with_reducible exact ih6 _ _ _ _ _ _ _ _ _ _ _ _ _ _ _ _ _)
      | (with_reducible exact spec_leb.mono _ _ _)
      | (with_reducible exact spec_packedAt.mono _ _ _ _)
      | (with_reducible exact LeO.refl _)
      | (with_reducible exact LeO.none _)
      | (with_reducible refine LeO.ite ?_ ?_)
      | (with_reducible refine LeO.bind ?_ (fun _ => ?_))
      | exact ih0 _ _ _ _ _ _ _ _ _
      | exact ih1 _ _ _ _ _ _ _ _
      | exact ih2 _ _ _ _ _ _ _ _ _ _
      | exact ih3 _ _ _ _ _ _ _ _ _ _ _ _
      | exact ih4 _ _ _ _ _ _ _ _ _ _ _ _ _ _ _ _
      | exact ih5 _ _ _ _ _ _ _ _ _ _ _ _ _ _ _ _
      | exact ih6 _ _ _ _ _ _ _ _ _ _ _ _ _ _ _ _ _
      | exact spec_leb.mono _ _ _
      | exact spec_packedAt.mono _ _ _ _
      | exact LeO.none _
      | refine LeO.ite ?_ ?_
      | refine LeO.bind ?_ (fun _ => ?_)
    · intro y0 y1 y2 y3 y4 y5 y6 y7 y8 y9
      unfold spec_Deltas.j2
      repeat' first
      | (with_reducible exact ih0 _ _ _ _ _ _ _ _ _)
      | (with_reducible exact ih1 _ _ _ _ _ _ _ _)
      | (with_reducible exact ih2 _ _ _ _ _ _ _ _ _ _)
      | (with_reducible exact ih3 _ _ _ _ _ _ _ _ _ _ _ _)
      | (with_reducible exact ih4 _ _ _ _ _ _ _ _ _ _ _ _ _ _ _ _)
      | (with_reducible exact ih5 _ _ _ _ _ _ _ _ _ _ _ _ _ _ _ _)
      | (with_reducible exact ih6 _ _ _ _ _ _ _ _ _ _ _ _ _ _ _ _ _)
      | (with_reducible exact spec_leb.mono _ _ _)
      | (with_reducible exact spec_packedAt.mono _ _ _ _)
      | (with_reducible exact LeO.refl _)
      | (with_reducible exact LeO.none _)
      | (with_reducible refine LeO.ite ?_ ?_)
      | (with_reducible refine LeO.bind ?_ (fun _ => ?_))
      | exact ih0 _ _ _ _ _ _ _ _ _
      | exact ih1 _ _ _ _ _ _ _ _
      | exact ih2 _ _ _ _ _ _ _ _ _ _
      | exact ih3 _ _ _ _ _ _ _ _ _ _ _ _
      | exact ih4 _ _ _ _ _ _ _ _ _ _ _ _ _ _ _ _
      | exact ih5 _ _ _ _ _ _ _ _ _ _ _ _ _ _ _ _
      | exact ih6 _ _ _ _ _ _ _ _ _ _ _ _ _ _ _ _ _
      | exact spec_leb.mono _ _ _
      | exact spec_packedAt.mono _ _ _ _
      | exact LeO.none _
      | refine LeO.ite ?_ ?_
      | refine LeO.bind ?_ (fun _ => ?_)
    · intro y0 y1 y2 y3 y4 y5 y6 y7 y8 y9 y10 y11
      unfold spec_Deltas.l1
      repeat' first
      | (with_reducible exact ih0 _ _ _ _ _ _ _ _ _)
      | (with_reducible exact ih1 _ _ _ _ _ _ _ _)
      | (with_reducible exact ih2 _ _ _ _ _ _ _ _ _ _)
      | (with_reducible exact ih3 _ _ _ _ _ _ _ _ _ _ _ _)
      | (with_reducible exact ih4 _ _ _ _ _ _ _ _ _ _ _ _ _ _ _ _)
      | (with_reducible exact ih5 _ _ _ _ _ _ _ _ _ _ _ _ _ _ _ _)
      | (with_reducible exact ih6 _ _ _ _ _ _ _ _ _ _ _ _ _ _ _ _ _)
      | (with_reducible exact spec_leb.mono _ _ _)
      | (with_reducible exact spec_packedAt.mono _ _ _ _)
      | (with_reducible exact LeO.refl _)
      | (with_reducible exact LeO.none _)
      | (with_reducible refine LeO.ite ?_ ?_)
      | (with_reducible refine LeO.bind ?_ (fun _ => ?_))
      | exact ih0 _ _ _ _ _ _ _ _ _
      | exact ih1 _ _ _ _ _ _ _ _
      | exact ih2 _ _ _ _ _ _ _ _ _ _
      | exact ih3 _ _ _ _ _ _ _ _ _ _ _ _
      | exact ih4 _ _ _ _ _ _ _ _ _ _ _ _ _ _ _ _
      | exact ih5 _ _ _ _ _ _ _ _ _ _ _ _ _ _ _ _
      | exact ih6 _ _ _ _ _ _ _ _ _ _ _ _ _ _ _ _ _
      | exact spec_leb.mono _ _ _
      | exact spec_packedAt.mono _ _ _ _
      | exact LeO.none _
      | refine LeO.ite ?_ ?_
      | refine LeO.bind ?_ (fun _ => ?_)
    · intro y0 y1 y2 y3 y4 y5 y6 y7 y8 y9 y10 y11 y12 y13 y14 y15
      unfold spec_Deltas.j4
      repeat' first
      | (with_reducible exact ih0 _ _ _ _ _ _ _ _ _)
      | (with_reducible exact ih1 _ _ _ _ _ _ _ _)
      | (with_reducible exact ih2 _ _ _ _ _ _ _ _ _ _)
      | (with_reducible exact ih3 _ _ _ _ _ _ _ _ _ _ _ _)
      | (with_reducible exact ih4 _ _ _ _ _ _ _ _ _ _ _ _ _ _ _ _)
      | (with_reducible exact ih5 _ _ _ _ _ _ _ _ _ _ _ _ _ _ _ _)
      | (with_reducible exact ih6 _ _ _ _ _ _ _ _ _ _ _ _ _ _ _ _ _)
      | (with_reducible exact spec_leb.mono _ _ _)
      | (with_reducible exact spec_packedAt.mono _ _ _ _)
      | (with_reducible exact LeO.refl _)
      | (with_reducible exact LeO.none _)
      | (with_reducible refine LeO.ite ?_ ?_)
      | (with_reducible refine LeO.bind ?_ (fun _ => ?_))
      | exact ih0 _ _ _ _ _ _ _ _ _
      | exact ih1 _ _ _ _ _ _ _ _
      | exact ih2 _ _ _ _ _ _ _ _ _ _
      | exact ih3 _ _ _ _ _ _ _ _ _ _ _ _
      | exact ih4 _ _ _ _ _ _ _ _ _ _ _ _ _ _ _ _
      | exact ih5 _ _ _ _ _ _ _ _ _ _ _ _ _ _ _ _
      | exact ih6 _ _ _ _ _ _ _ _ _ _ _ _ _ _ _ _ _
      | exact spec_leb.mono _ _ _
      | exact spec_packedAt.mono _ _ _ _
      | exact LeO.none _
      | refine LeO.ite ?_ ?_
      | refine LeO.bind ?_ (fun _ => ?_)
    · intro y0 y1 y2 y3 y4 y5 y6 y7 y8 y9 y10 y11 y12 y13 y14 y15
      unfold spec_Deltas.l2
      repeat' first
      | (with_reducible exact ih0 _ _ _ _ _ _ _ _ _)
      | (with_reducible exact ih1 _ _ _ _ _ _ _ _)
      | (with_reducible exact ih2 _ _ _ _ _ _ _ _ _ _)
      | (with_reducible exact ih3 _ _ _ _ _ _ _ _ _ _ _ _)
      | (with_reducible exact ih4 _ _ _ _ _ _ _ _ _ _ _ _ _ _ _ _)
      | (with_reducible exact ih5 _ _ _ _ _ _ _ _ _ _ _ _ _ _ _ _)
      | (with_reducible exact ih6 _ _ _ _ _ _ _ _ _ _ _ _ _ _ _ _ _)
      | (with_reducible exact spec_leb.mono _ _ _)
      | (with_reducible exact spec_packedAt.mono _ _ _ _)
      | (with_reducible exact LeO.refl _)
      | (with_reducible exact LeO.none _)
      | (with_reducible refine LeO.ite ?_ ?_)
      | (with_reducible refine LeO.bind ?_ (fun _ => ?_))
      | exact ih0 _ _ _ _ _ _ _ _ _
      | exact ih1 _ _ _ _ _ _ _ _
      | exact ih2 _ _ _ _ _ _ _ _ _ _
      | exact ih3 _ _ _ _ _ _ _ _ _ _ _ _
      | exact ih4 _ _ _ _ _ _ _ _ _ _ _ _ _ _ _ _
      | exact ih5 _ _ _ _ _ _ _ _ _ _ _ _ _ _ _ _
      | exact ih6 _ _ _ _ _ _ _ _ _ _ _ _ _ _ _ _ _
      | exact spec_leb.mono _ _ _
      | exact spec_packedAt.mono _ _ _ _
      | exact LeO.none _
      | refine LeO.ite ?_ ?_
      | refine LeO.bind ?_ (fun _ => ?_)
    · intro y0 y1 y2 y3 y4 y5 y6 y7 y8 y9 y10 y11 y12 y13 y14 y15 y16
      unfold spec_Deltas.j6
      repeat' first
      | (with_reducible exact ih0 _ _ _ _ _ _ _ _ _)
      | (with_reducible exact ih1 _ _ _ _ _ _ _ _)
      | (with_reducible exact ih2 _ _ _ _ _ _ _ _ _ _)
      | (with_reducible exact ih3 _ _ _ _ _ _ _ _ _ _ _ _)
      | (with_reducible exact ih4 _ _ _ _ _ _ _ _ _ _ _ _ _ _ _ _)
      | (with_reducible exact ih5 _ _ _ _ _ _ _ _ _ _ _ _ _ _ _ _)
      | (with_reducible exact ih6 _ _ _ _ _ _ _ _ _ _ _ _ _ _ _ _ _)
      | (with_reducible exact spec_leb.mono _ _ _)
      | (with_reducible exact spec_packedAt.mono _ _ _ _)
      | (with_reducible exact LeO.refl _)
      | (with_reducible exact LeO.none _)
      | (with_reducible refine LeO.ite ?_ ?_)
      | (with_reducible refine LeO.bind ?_ (fun _ => ?_))
      | exact ih0 _ _ _ _ _ _ _ _ _
      | exact ih1 _ _ _ _ _ _ _ _
      | exact ih2 _ _ _ _ _ _ _ _ _ _
      | exact ih3 _ _ _ _ _ _ _ _ _ _ _ _
      | exact ih4 _ _ _ _ _ _ _ _ _ _ _ _ _ _ _ _
      | exact ih5 _ _ _ _ _ _ _ _ _ _ _ _ _ _ _ _
      | exact ih6 _ _ _ _ _ _ _ _ _ _ _ _ _ _ _ _ _
      | exact spec_leb.mono _ _ _
      | exact spec_packedAt.mono _ _ _ _
      | exact LeO.none _
      | refine LeO.ite ?_ ?_
      | refine LeO.bind ?_ (fun _ => ?_)
theorem spec_Deltas.mono : ∀ a0 a1 k, LeO (spec_Deltas.f k a0 a1) (spec_Deltas.f (k + 1) a0 a1) := by
  intro a0 a1 k
  obtain ⟨ih0, ih1, ih2, ih3, ih4, ih5, ih6⟩ := spec_Deltas.mono_l k
  unfold spec_Deltas.f
  repeat' first
      | (with_reducible exact ih0 _ _ _ _ _ _ _ _ _)
      | (with_reducible exact ih1 _ _ _ _ _ _ _ _)
      | (with_reducible exact ih2 _ _ _ _ _ _ _ _ _ _)
      | (with_reducible exact ih3 _ _ _ _ _ _ _ _ _ _ _ _)
      | (with_reducible exact ih4 _ _ _ _ _ _ _ _ _ _ _ _ _ _ _ _)
      | (with_reducible exact ih5 _ _ _ _ _ _ _ _ _ _ _ _ _ _ _ _)
      | (with_reducible exact ih6 _ _ _ _ _ _ _ _ _ _ _ _ _ _ _ _ _)
      | (with_reducible exact spec_leb.mono _ _ _)
      | (with_reducible exact spec_packedAt.mono _ _ _ _)
      | (with_reducible exact LeO.refl _)
      | (with_reducible exact LeO.none _)
      | (with_reducible refine LeO.ite ?_ ?_)
      | (with_reducible refine LeO.bind ?_ (fun _ => ?_))
      | exact ih0 _ _ _ _ _ _ _ _ _
      | exact ih1 _ _ _ _ _ _ _ _
      | exact ih2 _ _ _ _ _ _ _ _ _ _
      | exact ih3 _ _ _ _ _ _ _ _ _ _ _ _
      | exact ih4 _ _ _ _ _ _ _ _ _ _ _ _ _ _ _ _
      | exact ih5 _ _ _ _ _ _ _ _ _ _ _ _ _ _ _ _
      | exact ih6 _ _ _ _ _ _ _ _ _ _ _ _ _ _ _ _ _
      | exact spec_leb.mono _ _ _
      | exact spec_packedAt.mono _ _ _ _
      | exact LeO.none _
      | refine LeO.ite ?_ ?_
      | refine LeO.bind ?_ (fun _ => ?_)
set_option maxHeartbeats 8000000 in
set_option maxRecDepth 100000 in
theorem spec_Deltas.calls (k : Nat) (A0 : Option Addr) (c0 : Nat) (l0 : List Int) (a1 : Int) (r1 : List Int) (r2 : Int) (r3 : Bool) (w : World) (hr0 : Kd.C (Kd.int .u8) w A0 l0.length l0) (hc0 : l0.length ≤ c0) (h : spec_Deltas.f k l0 a1 = some (r1, r2, r3)) :
    Calls Try.prog 8 #[.slice A0 l0.length c0, .int .i64 a1] w fun e w' => ∃ v0_ : Value, e = .returned (.tuple #[v0_, .int .i64 r2, .bool r3]) ∧ Kd.R (Kd.int .i64) 2 w' w.heap.size (fun _ => True) v0_ r1 ∧ Below w.heap.size w w' := by
  have HR0 := Aside0.mk hr0
  have HC0 := Aside0.mk hc0
  clear hr0 hc0
  have HB := Aside0.mk (Below.refl w.heap.size w)
  have H : ((spec_leb.f k l0 0).bind fun bt149 => ((spec_leb.f k l0 bt149.2.1).bind fun bt152 => ((spec_leb.f k l0 bt152.2.1).bind fun bt155 => ((spec_leb.f k l0 bt155.2.1).bind fun bt158 => (if bt149.2.2 = true then (if bt152.2.2 = true then (if bt155.2.2 = true then (if bt158.2.2 = true then (if bt149.1 = 0 then (spec_Deltas.j0 k l0 a1 ([] : List Int) bt149.1 bt158.2.1 bt152.1 bt155.1 bt158.1 true) else (if (Int.tmod bt149.1 128) = 0 then (if bt149.1 > 1048576 then (spec_Deltas.j0 k l0 a1 ([] : List Int) bt149.1 bt158.2.1 bt152.1 bt155.1 bt158.1 true) else (if bt152.1 = 0 then (spec_Deltas.j0 k l0 a1 ([] : List Int) bt149.1 bt158.2.1 bt152.1 bt155.1 bt158.1 true) else (if (Int.tmod bt149.1 bt152.1) = 0 then (if (Int.tmod (IntKind.u64.wrap (Int.tdiv bt149.1 bt152.1)) 32) = 0 then (spec_Deltas.j0 k l0 a1 ([] : List Int) bt149.1 bt158.2.1 bt152.1 bt155.1 bt158.1 (decide (bt155.1 > 1048576))) else (spec_Deltas.j0 k l0 a1 ([] : List Int) bt149.1 bt158.2.1 bt152.1 bt155.1 bt158.1 true)) else (spec_Deltas.j0 k l0 a1 ([] : List Int) bt149.1 bt158.2.1 bt152.1 bt155.1 bt158.1 true)))) else (spec_Deltas.j0 k l0 a1 ([] : List Int) bt149.1 bt158.2.1 bt152.1 bt155.1 bt158.1 true))) else (spec_Deltas.j0 k l0 a1 ([] : List Int) bt149.1 bt158.2.1 bt152.1 bt155.1 bt158.1 true)) else (spec_Deltas.j0 k l0 a1 ([] : List Int) bt149.1 bt158.2.1 bt152.1 bt155.1 bt158.1 true)) else (spec_Deltas.j0 k l0 a1 ([] : List Int) bt149.1 bt158.2.1 bt152.1 bt155.1 bt158.1 true)) else (spec_Deltas.j0 k l0 a1 ([] : List Int) bt149.1 bt158.2.1 bt152.1 bt155.1 bt158.1 true)))))) = some (r1, r2, r3) := h
  clear h
  replace H := Option.bind_eq_some_iff.mp H
  obtain ⟨⟨t149, t150, t151⟩, A30, H⟩ := H
  replace H : ((spec_leb.f k l0 t150).bind fun bt152 => ((spec_leb.f k l0 bt152.2.1).bind fun bt155 => ((spec_leb.f k l0 bt155.2.1).bind fun bt158 => (if t151 = true then (if bt152.2.2 = true then (if bt155.2.2 = true then (if bt158.2.2 = true then (if t149 = 0 then (spec_Deltas.j0 k l0 a1 ([] : List Int) t149 bt158.2.1 bt152.1 bt155.1 bt158.1 true) else (if (Int.tmod t149 128) = 0 then (if t149 > 1048576 then (spec_Deltas.j0 k l0 a1 ([] : List Int) t149 bt158.2.1 bt152.1 bt155.1 bt158.1 true) else (if bt152.1 = 0 then (spec_Deltas.j0 k l0 a1 ([] : List Int) t149 bt158.2.1 bt152.1 bt155.1 bt158.1 true) else (if (Int.tmod t149 bt152.1) = 0 then (if (Int.tmod (IntKind.u64.wrap (Int.tdiv t149 bt152.1)) 32) = 0 then (spec_Deltas.j0 k l0 a1 ([] : List Int) t149 bt158.2.1 bt152.1 bt155.1 bt158.1 (decide (bt155.1 > 1048576))) else (spec_Deltas.j0 k l0 a1 ([] : List Int) t149 bt158.2.1 bt152.1 bt155.1 bt158.1 true)) else (spec_Deltas.j0 k l0 a1 ([] : List Int) t149 bt158.2.1 bt152.1 bt155.1 bt158.1 true)))) else (spec_Deltas.j0 k l0 a1 ([] : List Int) t149 bt158.2.1 bt152.1 bt155.1 bt158.1 true))) else (spec_Deltas.j0 k l0 a1 ([] : List Int) t149 bt158.2.1 bt152.1 bt155.1 bt158.1 true)) else (spec_Deltas.j0 k l0 a1 ([] : List Int) t149 bt158.2.1 bt152.1 bt155.1 bt158.1 true)) else (spec_Deltas.j0 k l0 a1 ([] : List Int) t149 bt158.2.1 bt152.1 bt155.1 bt158.1 true)) else (spec_Deltas.j0 k l0 a1 ([] : List Int) t149 bt158.2.1 bt152.1 bt155.1 bt158.1 true))))) = some (r1, r2, r3) := H
  have A3 := Aside0.mk A30
  clear A30
  replace H := Option.bind_eq_some_iff.mp H
  obtain ⟨⟨t152, t153, t154⟩, A40, H⟩ := H
  replace H : ((spec_leb.f k l0 t153).bind fun bt155 => ((spec_leb.f k l0 bt155.2.1).bind fun bt158 => (if t151 = true then (if t154 = true then (if bt155.2.2 = true then (if bt158.2.2 = true then (if t149 = 0 then (spec_Deltas.j0 k l0 a1 ([] : List Int) t149 bt158.2.1 t152 bt155.1 bt158.1 true) else (if (Int.tmod t149 128) = 0 then (if t149 > 1048576 then (spec_Deltas.j0 k l0 a1 ([] : List Int) t149 bt158.2.1 t152 bt155.1 bt158.1 true) else (if t152 = 0 then (spec_Deltas.j0 k l0 a1 ([] : List Int) t149 bt158.2.1 t152 bt155.1 bt158.1 true) else (if (Int.tmod t149 t152) = 0 then (if (Int.tmod (IntKind.u64.wrap (Int.tdiv t149 t152)) 32) = 0 then (spec_Deltas.j0 k l0 a1 ([] : List Int) t149 bt158.2.1 t152 bt155.1 bt158.1 (decide (bt155.1 > 1048576))) else (spec_Deltas.j0 k l0 a1 ([] : List Int) t149 bt158.2.1 t152 bt155.1 bt158.1 true)) else (spec_Deltas.j0 k l0 a1 ([] : List Int) t149 bt158.2.1 t152 bt155.1 bt158.1 true)))) else (spec_Deltas.j0 k l0 a1 ([] : List Int) t149 bt158.2.1 t152 bt155.1 bt158.1 true))) else (spec_Deltas.j0 k l0 a1 ([] : List Int) t149 bt158.2.1 t152 bt155.1 bt158.1 true)) else (spec_Deltas.j0 k l0 a1 ([] : List Int) t149 bt158.2.1 t152 bt155.1 bt158.1 true)) else (spec_Deltas.j0 k l0 a1 ([] : List Int) t149 bt158.2.1 t152 bt155.1 bt158.1 true)) else (spec_Deltas.j0 k l0 a1 ([] : List Int) t149 bt158.2.1 t152 bt155.1 bt158.1 true)))) = some (r1, r2, r3) := H
  have A4 := Aside0.mk A40
  clear A40
  replace H := Option.bind_eq_some_iff.mp H
  obtain ⟨⟨t155, t156, t157⟩, A50, H⟩ := H
  replace H : ((spec_leb.f k l0 t156).bind fun bt158 => (if t151 = true then (if t154 = true then (if t157 = true then (if bt158.2.2 = true then (if t149 = 0 then (spec_Deltas.j0 k l0 a1 ([] : List Int) t149 bt158.2.1 t152 t155 bt158.1 true) else (if (Int.tmod t149 128) = 0 then (if t149 > 1048576 then (spec_Deltas.j0 k l0 a1 ([] : List Int) t149 bt158.2.1 t152 t155 bt158.1 true) else (if t152 = 0 then (spec_Deltas.j0 k l0 a1 ([] : List Int) t149 bt158.2.1 t152 t155 bt158.1 true) else (if (Int.tmod t149 t152) = 0 then (if (Int.tmod (IntKind.u64.wrap (Int.tdiv t149 t152)) 32) = 0 then (spec_Deltas.j0 k l0 a1 ([] : List Int) t149 bt158.2.1 t152 t155 bt158.1 (decide (t155 > 1048576))) else (spec_Deltas.j0 k l0 a1 ([] : List Int) t149 bt158.2.1 t152 t155 bt158.1 true)) else (spec_Deltas.j0 k l0 a1 ([] : List Int) t149 bt158.2.1 t152 t155 bt158.1 true)))) else (spec_Deltas.j0 k l0 a1 ([] : List Int) t149 bt158.2.1 t152 t155 bt158.1 true))) else (spec_Deltas.j0 k l0 a1 ([] : List Int) t149 bt158.2.1 t152 t155 bt158.1 true)) else (spec_Deltas.j0 k l0 a1 ([] : List Int) t149 bt158.2.1 t152 t155 bt158.1 true)) else (spec_Deltas.j0 k l0 a1 ([] : List Int) t149 bt158.2.1 t152 t155 bt158.1 true)) else (spec_Deltas.j0 k l0 a1 ([] : List Int) t149 bt158.2.1 t152 t155 bt158.1 true))) = some (r1, r2, r3) := H
  have A5 := Aside0.mk A50
  clear A50
  replace H := Option.bind_eq_some_iff.mp H
  obtain ⟨⟨t158, t159, t160⟩, A60, H⟩ := H
  replace H : (if t151 = true then (if t154 = true then (if t157 = true then (if t160 = true then (if t149 = 0 then (spec_Deltas.j0 k l0 a1 ([] : List Int) t149 t159 t152 t155 t158 true) else (if (Int.tmod t149 128) = 0 then (if t149 > 1048576 then (spec_Deltas.j0 k l0 a1 ([] : List Int) t149 t159 t152 t155 t158 true) else (if t152 = 0 then (spec_Deltas.j0 k l0 a1 ([] : List Int) t149 t159 t152 t155 t158 true) else (if (Int.tmod t149 t152) = 0 then (if (Int.tmod (IntKind.u64.wrap (Int.tdiv t149 t152)) 32) = 0 then (spec_Deltas.j0 k l0 a1 ([] : List Int) t149 t159 t152 t155 t158 (decide (t155 > 1048576))) else (spec_Deltas.j0 k l0 a1 ([] : List Int) t149 t159 t152 t155 t158 true)) else (spec_Deltas.j0 k l0 a1 ([] : List Int) t149 t159 t152 t155 t158 true)))) else (spec_Deltas.j0 k l0 a1 ([] : List Int) t149 t159 t152 t155 t158 true))) else (spec_Deltas.j0 k l0 a1 ([] : List Int) t149 t159 t152 t155 t158 true)) else (spec_Deltas.j0 k l0 a1 ([] : List Int) t149 t159 t152 t155 t158 true)) else (spec_Deltas.j0 k l0 a1 ([] : List Int) t149 t159 t152 t155 t158 true)) else (spec_Deltas.j0 k l0 a1 ([] : List Int) t149 t159 t152 t155 t158 true)) = some (r1, r2, r3) := H
  have A6 := Aside0.mk A60
  clear A60
  have HC7 := Aside0.mk H
  clear H
  go_enter Try.func8, Try.ntmps8
  go_upto_region 5 with (first | (go_at_call 13; (with_reducible refine (spec_leb.calls k _ _ l0 0 t149 t150 t151 _ ?side1 ?side2 A3.out).mono ?_); (case side1 => repeat (first | exact HR0.out | (with_reducible refine Kd.C_alloc ?_ _) | (with_reducible refine Kd.C_drewN ?_ _) | (with_reducible refine Kd.C_drew ?_))); (case side2 => exact HC0.out); rintro e w' ⟨rfl, ⟨nd, rfl⟩⟩; (try first | exact ⟨rfl, _, World.drewN_drewN _ _ _⟩ | exact ⟨rfl, _, Eq.trans (World.drewN_drewN _ _ _) (congrArg (World.drewN _) (Nat.add_assoc _ _ _))⟩)) | (go_at_call 13; (with_reducible refine (spec_leb.calls k _ _ l0 t150 t152 t153 t154 _ ?side1 ?side2 A4.out).mono ?_); (case side1 => repeat (first | exact HR0.out | (with_reducible refine Kd.C_alloc ?_ _) | (with_reducible refine Kd.C_drewN ?_ _) | (with_reducible refine Kd.C_drew ?_))); (case side2 => exact HC0.out); rintro e w' ⟨rfl, ⟨nd, rfl⟩⟩; (try first | exact ⟨rfl, _, World.drewN_drewN _ _ _⟩ | exact ⟨rfl, _, Eq.trans (World.drewN_drewN _ _ _) (congrArg (World.drewN _) (Nat.add_assoc _ _ _))⟩)) | (go_at_call 13; (with_reducible refine (spec_leb.calls k _ _ l0 t153 t155 t156 t157 _ ?side1 ?side2 A5.out).mono ?_); (case side1 => repeat (first | exact HR0.out | (with_reducible refine Kd.C_alloc ?_ _) | (with_reducible refine Kd.C_drewN ?_ _) | (with_reducible refine Kd.C_drew ?_))); (case side2 => exact HC0.out); rintro e w' ⟨rfl, ⟨nd, rfl⟩⟩; (try first | exact ⟨rfl, _, World.drewN_drewN _ _ _⟩ | exact ⟨rfl, _, Eq.trans (World.drewN_drewN _ _ _) (congrArg (World.drewN _) (Nat.add_assoc _ _ _))⟩)) | (go_at_call 13; (with_reducible refine (spec_leb.calls k _ _ l0 t156 t158 t159 t160 _ ?side1 ?side2 A6.out).mono ?_); (case side1 => repeat (first | exact HR0.out | (with_reducible refine Kd.C_alloc ?_ _) | (with_reducible refine Kd.C_drewN ?_ _) | (with_reducible refine Kd.C_drew ?_))); (case side2 => exact HC0.out); rintro e w' ⟨rfl, ⟨nd, rfl⟩⟩; (try first | exact ⟨rfl, _, World.drewN_drewN _ _ _⟩ | exact ⟨rfl, _, Eq.trans (World.drewN_drewN _ _ _) (congrArg (World.drewN _) (Nat.add_assoc _ _ _))⟩)))
  repeat (go_quiet (first | (go_at_call 13; (with_reducible refine (spec_leb.calls k _ _ l0 0 t149 t150 t151 _ ?side1 ?side2 A3.out).mono ?_); (case side1 => repeat (first | exact HR0.out | (with_reducible refine Kd.C_alloc ?_ _) | (with_reducible refine Kd.C_drewN ?_ _) | (with_reducible refine Kd.C_drew ?_))); (case side2 => exact HC0.out); rintro e w' ⟨rfl, ⟨nd, rfl⟩⟩; (try first | exact ⟨rfl, _, World.drewN_drewN _ _ _⟩ | exact ⟨rfl, _, Eq.trans (World.drewN_drewN _ _ _) (congrArg (World.drewN _) (Nat.add_assoc _ _ _))⟩)) | (go_at_call 13; (with_reducible refine (spec_leb.calls k _ _ l0 t150 t152 t153 t154 _ ?side1 ?side2 A4.out).mono ?_); (case side1 => repeat (first | exact HR0.out | (with_reducible refine Kd.C_alloc ?_ _) | (with_reducible refine Kd.C_drewN ?_ _) | (with_reducible refine Kd.C_drew ?_))); (case side2 => exact HC0.out); rintro e w' ⟨rfl, ⟨nd, rfl⟩⟩; (try first | exact ⟨rfl, _, World.drewN_drewN _ _ _⟩ | exact ⟨rfl, _, Eq.trans (World.drewN_drewN _ _ _) (congrArg (World.drewN _) (Nat.add_assoc _ _ _))⟩)) | (go_at_call 13; (with_reducible refine (spec_leb.calls k _ _ l0 t153 t155 t156 t157 _ ?side1 ?side2 A5.out).mono ?_); (case side1 => repeat (first | exact HR0.out | (with_reducible refine Kd.C_alloc ?_ _) | (with_reducible refine Kd.C_drewN ?_ _) | (with_reducible refine Kd.C_drew ?_))); (case side2 => exact HC0.out); rintro e w' ⟨rfl, ⟨nd, rfl⟩⟩; (try first | exact ⟨rfl, _, World.drewN_drewN _ _ _⟩ | exact ⟨rfl, _, Eq.trans (World.drewN_drewN _ _ _) (congrArg (World.drewN _) (Nat.add_assoc _ _ _))⟩)) | (go_at_call 13; (with_reducible refine (spec_leb.calls k _ _ l0 t156 t158 t159 t160 _ ?side1 ?side2 A6.out).mono ?_); (case side1 => repeat (first | exact HR0.out | (with_reducible refine Kd.C_alloc ?_ _) | (with_reducible refine Kd.C_drewN ?_ _) | (with_reducible refine Kd.C_drew ?_))); (case side2 => exact HC0.out); rintro e w' ⟨rfl, ⟨nd, rfl⟩⟩; (try first | exact ⟨rfl, _, World.drewN_drewN _ _ _⟩ | exact ⟨rfl, _, Eq.trans (World.drewN_drewN _ _ _) (congrArg (World.drewN _) (Nat.add_assoc _ _ _))⟩))); go_upto_region 5 with (first | (go_at_call 13; (with_reducible refine (spec_leb.calls k _ _ l0 0 t149 t150 t151 _ ?side1 ?side2 A3.out).mono ?_); (case side1 => repeat (first | exact HR0.out | (with_reducible refine Kd.C_alloc ?_ _) | (with_reducible refine Kd.C_drewN ?_ _) | (with_reducible refine Kd.C_drew ?_))); (case side2 => exact HC0.out); rintro e w' ⟨rfl, ⟨nd, rfl⟩⟩; (try first | exact ⟨rfl, _, World.drewN_drewN _ _ _⟩ | exact ⟨rfl, _, Eq.trans (World.drewN_drewN _ _ _) (congrArg (World.drewN _) (Nat.add_assoc _ _ _))⟩)) | (go_at_call 13; (with_reducible refine (spec_leb.calls k _ _ l0 t150 t152 t153 t154 _ ?side1 ?side2 A4.out).mono ?_); (case side1 => repeat (first | exact HR0.out | (with_reducible refine Kd.C_alloc ?_ _) | (with_reducible refine Kd.C_drewN ?_ _) | (with_reducible refine Kd.C_drew ?_))); (case side2 => exact HC0.out); rintro e w' ⟨rfl, ⟨nd, rfl⟩⟩; (try first | exact ⟨rfl, _, World.drewN_drewN _ _ _⟩ | exact ⟨rfl, _, Eq.trans (World.drewN_drewN _ _ _) (congrArg (World.drewN _) (Nat.add_assoc _ _ _))⟩)) | (go_at_call 13; (with_reducible refine (spec_leb.calls k _ _ l0 t153 t155 t156 t157 _ ?side1 ?side2 A5.out).mono ?_); (case side1 => repeat (first | exact HR0.out | (with_reducible refine Kd.C_alloc ?_ _) | (with_reducible refine Kd.C_drewN ?_ _) | (with_reducible refine Kd.C_drew ?_))); (case side2 => exact HC0.out); rintro e w' ⟨rfl, ⟨nd, rfl⟩⟩; (try first | exact ⟨rfl, _, World.drewN_drewN _ _ _⟩ | exact ⟨rfl, _, Eq.trans (World.drewN_drewN _ _ _) (congrArg (World.drewN _) (Nat.add_assoc _ _ _))⟩)) | (go_at_call 13; (with_reducible refine (spec_leb.calls k _ _ l0 t156 t158 t159 t160 _ ?side1 ?side2 A6.out).mono ?_); (case side1 => repeat (first | exact HR0.out | (with_reducible refine Kd.C_alloc ?_ _) | (with_reducible refine Kd.C_drewN ?_ _) | (with_reducible refine Kd.C_drew ?_))); (case side2 => exact HC0.out); rintro e w' ⟨rfl, ⟨nd, rfl⟩⟩; (try first | exact ⟨rfl, _, World.drewN_drewN _ _ _⟩ | exact ⟨rfl, _, Eq.trans (World.drewN_drewN _ _ _) (congrArg (World.drewN _) (Nat.add_assoc _ _ _))⟩))))
  (try simp only [Act.put, List.setIfInBounds_toArray, List.set_cons_zero, List.set_cons_succ])
  go_cut [100] (fun v100 wc => ∃ (kq : Nat) (x100_6 : Bool), v100 = .bool x100_6 ∧ Aside0 (spec_Deltas.j0 kq l0 a1 ([] : List Int) t149 t159 t152 t155 t158 x100_6 = some (r1, r2, r3)) ∧ Aside0 (kq ≤ k) ∧ Aside0 (Kd.R (Kd.int .i64) 2 wc w.heap.size (fun _ => True) (.slice none 0 0) ([] : List Int)) ∧ Aside0 (Below w.heap.size w wc))
  case first =>
    have H := HC7.out
    clear HC7
    by_cases c8 : t151 = true
    · subst c8
      have H1 : (if t154 = true then (if t157 = true then (if t160 = true then (if t149 = 0 then (spec_Deltas.j0 k l0 a1 ([] : List Int) t149 t159 t152 t155 t158 true) else (if (Int.tmod t149 128) = 0 then (if t149 > 1048576 then (spec_Deltas.j0 k l0 a1 ([] : List Int) t149 t159 t152 t155 t158 true) else (if t152 = 0 then (spec_Deltas.j0 k l0 a1 ([] : List Int) t149 t159 t152 t155 t158 true) else (if (Int.tmod t149 t152) = 0 then (if (Int.tmod (IntKind.u64.wrap (Int.tdiv t149 t152)) 32) = 0 then (spec_Deltas.j0 k l0 a1 ([] : List Int) t149 t159 t152 t155 t158 (decide (t155 > 1048576))) else (spec_Deltas.j0 k l0 a1 ([] : List Int) t149 t159 t152 t155 t158 true)) else (spec_Deltas.j0 k l0 a1 ([] : List Int) t149 t159 t152 t155 t158 true)))) else (spec_Deltas.j0 k l0 a1 ([] : List Int) t149 t159 t152 t155 t158 true))) else (spec_Deltas.j0 k l0 a1 ([] : List Int) t149 t159 t152 t155 t158 true)) else (spec_Deltas.j0 k l0 a1 ([] : List Int) t149 t159 t152 t155 t158 true)) else (spec_Deltas.j0 k l0 a1 ([] : List Int) t149 t159 t152 t155 t158 true)) = some (r1, r2, r3) := by rw [if_pos rfl] at H; exact H
      clear H
      have H := H1
      clear H1
      by_cases c9 : t154 = true
      · subst c9
        have H1 : (if t157 = true then (if t160 = true then (if t149 = 0 then (spec_Deltas.j0 k l0 a1 ([] : List Int) t149 t159 t152 t155 t158 true) else (if (Int.tmod t149 128) = 0 then (if t149 > 1048576 then (spec_Deltas.j0 k l0 a1 ([] : List Int) t149 t159 t152 t155 t158 true) else (if t152 = 0 then (spec_Deltas.j0 k l0 a1 ([] : List Int) t149 t159 t152 t155 t158 true) else (if (Int.tmod t149 t152) = 0 then (if (Int.tmod (IntKind.u64.wrap (Int.tdiv t149 t152)) 32) = 0 then (spec_Deltas.j0 k l0 a1 ([] : List Int) t149 t159 t152 t155 t158 (decide (t155 > 1048576))) else (spec_Deltas.j0 k l0 a1 ([] : List Int) t149 t159 t152 t155 t158 true)) else (spec_Deltas.j0 k l0 a1 ([] : List Int) t149 t159 t152 t155 t158 true)))) else (spec_Deltas.j0 k l0 a1 ([] : List Int) t149 t159 t152 t155 t158 true))) else (spec_Deltas.j0 k l0 a1 ([] : List Int) t149 t159 t152 t155 t158 true)) else (spec_Deltas.j0 k l0 a1 ([] : List Int) t149 t159 t152 t155 t158 true)) = some (r1, r2, r3) := by rw [if_pos rfl] at H; exact H
        clear H
        have H := H1
        clear H1
        by_cases c10 : t157 = true
        · subst c10
          have H1 : (if t160 = true then (if t149 = 0 then (spec_Deltas.j0 k l0 a1 ([] : List Int) t149 t159 t152 t155 t158 true) else (if (Int.tmod t149 128) = 0 then (if t149 > 1048576 then (spec_Deltas.j0 k l0 a1 ([] : List Int) t149 t159 t152 t155 t158 true) else (if t152 = 0 then (spec_Deltas.j0 k l0 a1 ([] : List Int) t149 t159 t152 t155 t158 true) else (if (Int.tmod t149 t152) = 0 then (if (Int.tmod (IntKind.u64.wrap (Int.tdiv t149 t152)) 32) = 0 then (spec_Deltas.j0 k l0 a1 ([] : List Int) t149 t159 t152 t155 t158 (decide (t155 > 1048576))) else (spec_Deltas.j0 k l0 a1 ([] : List Int) t149 t159 t152 t155 t158 true)) else (spec_Deltas.j0 k l0 a1 ([] : List Int) t149 t159 t152 t155 t158 true)))) else (spec_Deltas.j0 k l0 a1 ([] : List Int) t149 t159 t152 t155 t158 true))) else (spec_Deltas.j0 k l0 a1 ([] : List Int) t149 t159 t152 t155 t158 true)) = some (r1, r2, r3) := by rw [if_pos rfl] at H; exact H
          clear H
          have H := H1
          clear H1
          by_cases c11 : t160 = true
          · subst c11
            have H1 : (if t149 = 0 then (spec_Deltas.j0 k l0 a1 ([] : List Int) t149 t159 t152 t155 t158 true) else (if (Int.tmod t149 128) = 0 then (if t149 > 1048576 then (spec_Deltas.j0 k l0 a1 ([] : List Int) t149 t159 t152 t155 t158 true) else (if t152 = 0 then (spec_Deltas.j0 k l0 a1 ([] : List Int) t149 t159 t152 t155 t158 true) else (if (Int.tmod t149 t152) = 0 then (if (Int.tmod (IntKind.u64.wrap (Int.tdiv t149 t152)) 32) = 0 then (spec_Deltas.j0 k l0 a1 ([] : List Int) t149 t159 t152 t155 t158 (decide (t155 > 1048576))) else (spec_Deltas.j0 k l0 a1 ([] : List Int) t149 t159 t152 t155 t158 true)) else (spec_Deltas.j0 k l0 a1 ([] : List Int) t149 t159 t152 t155 t158 true)))) else (spec_Deltas.j0 k l0 a1 ([] : List Int) t149 t159 t152 t155 t158 true))) = some (r1, r2, r3) := by rw [if_pos rfl] at H; exact H
            clear H
            have H := H1
            clear H1
            by_cases c12 : t149 = 0
            · rw [if_pos c12] at H
              have c12b0 : (t149 == 0) = true := beq_iff_eq.mpr c12
              have c12b1 : (t149 != 0) = false := bne_eq_false_iff_eq.mpr c12
              clear c12
              (first | rw [c12b0] | (simp only [i64_w, i32_w]; rw [c12b0]) | skip)
              have H' := Aside0.mk H
              clear H
              go_wp2
              repeat (go_quiet (fail); try go_wp2)
              go_meet
              case rel => exact ⟨_, (true), (by first | rfl | (simp; done) | (simp [*]; done)), H', ⟨by first | omega | exact Nat.le_refl _⟩, ⟨by first | exact Kd.R_nil _ _ _ _ _ | exact Kd.N_nil _ _ _ _ _ | exact Kd.V_nil _ _ _ _ _ | exact Kd.Q_nil _ _ _ _ _ | exact Kd.S_nil _ _ _ _ _⟩, ⟨by repeat (first | (with_reducible first | exact HB.out | apply below_alloc | apply pw_below_drewN | apply below_drew1) | exact HB.out)⟩⟩
            · rw [if_neg c12] at H
              have c12b0 : (t149 == 0) = false := beq_eq_false_iff_ne.mpr c12
              have c12b1 : (t149 != 0) = true := bne_iff_ne.mpr c12
              (first | rw [c12b0] | (simp only [i64_w, i32_w]; rw [c12b0]) | skip)
              by_cases c13 : (Int.tmod t149 128) = 0
              · rw [if_pos c13] at H
                have c13b0 : ((Int.tmod t149 128) == 0) = true := beq_iff_eq.mpr c13
                have c13b1 : ((Int.tmod t149 128) != 0) = false := bne_eq_false_iff_eq.mpr c13
                clear c13
                by_cases c14 : t149 > 1048576
                · rw [if_pos c14] at H
                  have c14b0 : decide (1048576 < t149) = true := decide_eq_true c14
                  clear c14
                  have H' := Aside0.mk H
                  clear H
                  go_wp2
                  repeat (go_quiet (fail); try go_wp2)
                  go_meet
                  case rel => exact ⟨_, (true), (by first | rfl | (simp; done) | (simp [*]; done)), H', ⟨by first | omega | exact Nat.le_refl _⟩, ⟨by first | exact Kd.R_nil _ _ _ _ _ | exact Kd.N_nil _ _ _ _ _ | exact Kd.V_nil _ _ _ _ _ | exact Kd.Q_nil _ _ _ _ _ | exact Kd.S_nil _ _ _ _ _⟩, ⟨by repeat (first | (with_reducible first | exact HB.out | apply below_alloc | apply pw_below_drewN | apply below_drew1) | exact HB.out)⟩⟩
                · rw [if_neg c14] at H
                  have c14b0 : decide (1048576 < t149) = false := decide_eq_false c14
                  clear c14
                  by_cases c15 : t152 = 0
                  · rw [if_pos c15] at H
                    have c15b0 : (t152 == 0) = true := beq_iff_eq.mpr c15
                    have c15b1 : (t152 != 0) = false := bne_eq_false_iff_eq.mpr c15
                    clear c15
                    have H' := Aside0.mk H
                    clear H
                    go_wp2
                    repeat (go_quiet (fail); try go_wp2)
                    go_meet
                    case rel => exact ⟨_, (true), (by first | rfl | (simp; done) | (simp [*]; done)), H', ⟨by first | omega | exact Nat.le_refl _⟩, ⟨by first | exact Kd.R_nil _ _ _ _ _ | exact Kd.N_nil _ _ _ _ _ | exact Kd.V_nil _ _ _ _ _ | exact Kd.Q_nil _ _ _ _ _ | exact Kd.S_nil _ _ _ _ _⟩, ⟨by repeat (first | (with_reducible first | exact HB.out | apply below_alloc | apply pw_below_drewN | apply below_drew1) | exact HB.out)⟩⟩
                  · rw [if_neg c15] at H
                    have c15b0 : (t152 == 0) = false := beq_eq_false_iff_ne.mpr c15
                    have c15b1 : (t152 != 0) = true := bne_iff_ne.mpr c15
                    by_cases c16 : (Int.tmod t149 t152) = 0
                    · rw [if_pos c16] at H
                      have c16b0 : ((Int.tmod t149 t152) == 0) = true := beq_iff_eq.mpr c16
                      have c16b1 : ((Int.tmod t149 t152) != 0) = false := bne_eq_false_iff_eq.mpr c16
                      clear c16
                      by_cases c17 : (Int.tmod (IntKind.u64.wrap (Int.tdiv t149 t152)) 32) = 0
                      · rw [if_pos c17] at H
                        have c17b0 : ((Int.tmod (IntKind.u64.wrap (Int.tdiv t149 t152)) 32) == 0) = true := beq_iff_eq.mpr c17
                        have c17b1 : ((Int.tmod (IntKind.u64.wrap (Int.tdiv t149 t152)) 32) != 0) = false := bne_eq_false_iff_eq.mpr c17
                        clear c17
                        have H' := Aside0.mk H
                        clear H
                        go_wp2
                        repeat (go_quiet (fail); try go_wp2)
                        go_meet
                        case rel => exact ⟨_, (decide (t155 > 1048576)), (by first | rfl | (simp; done) | (simp [*]; done)), H', ⟨by first | omega | exact Nat.le_refl _⟩, ⟨by first | exact Kd.R_nil _ _ _ _ _ | exact Kd.N_nil _ _ _ _ _ | exact Kd.V_nil _ _ _ _ _ | exact Kd.Q_nil _ _ _ _ _ | exact Kd.S_nil _ _ _ _ _⟩, ⟨by repeat (first | (with_reducible first | exact HB.out | apply below_alloc | apply pw_below_drewN | apply below_drew1) | exact HB.out)⟩⟩
                      · rw [if_neg c17] at H
                        have c17b0 : ((Int.tmod (IntKind.u64.wrap (Int.tdiv t149 t152)) 32) == 0) = false := beq_eq_false_iff_ne.mpr c17
                        have c17b1 : ((Int.tmod (IntKind.u64.wrap (Int.tdiv t149 t152)) 32) != 0) = true := bne_iff_ne.mpr c17
                        have H' := Aside0.mk H
                        clear H
                        go_wp2
                        repeat (go_quiet (fail); try go_wp2)
                        go_meet
                        case rel => exact ⟨_, (true), (by first | rfl | (simp; done) | (simp [*]; done)), H', ⟨by first | omega | exact Nat.le_refl _⟩, ⟨by first | exact Kd.R_nil _ _ _ _ _ | exact Kd.N_nil _ _ _ _ _ | exact Kd.V_nil _ _ _ _ _ | exact Kd.Q_nil _ _ _ _ _ | exact Kd.S_nil _ _ _ _ _⟩, ⟨by repeat (first | (with_reducible first | exact HB.out | apply below_alloc | apply pw_below_drewN | apply below_drew1) | exact HB.out)⟩⟩
                    · rw [if_neg c16] at H
                      have c16b0 : ((Int.tmod t149 t152) == 0) = false := beq_eq_false_iff_ne.mpr c16
                      have c16b1 : ((Int.tmod t149 t152) != 0) = true := bne_iff_ne.mpr c16
                      have H' := Aside0.mk H
                      clear H
                      go_wp2
                      repeat (go_quiet (fail); try go_wp2)
                      go_meet
                      case rel => exact ⟨_, (true), (by first | rfl | (simp; done) | (simp [*]; done)), H', ⟨by first | omega | exact Nat.le_refl _⟩, ⟨by first | exact Kd.R_nil _ _ _ _ _ | exact Kd.N_nil _ _ _ _ _ | exact Kd.V_nil _ _ _ _ _ | exact Kd.Q_nil _ _ _ _ _ | exact Kd.S_nil _ _ _ _ _⟩, ⟨by repeat (first | (with_reducible first | exact HB.out | apply below_alloc | apply pw_below_drewN | apply below_drew1) | exact HB.out)⟩⟩
              · rw [if_neg c13] at H
                have c13b0 : ((Int.tmod t149 128) == 0) = false := beq_eq_false_iff_ne.mpr c13
                have c13b1 : ((Int.tmod t149 128) != 0) = true := bne_iff_ne.mpr c13
                have H' := Aside0.mk H
                clear H
                go_wp2
                repeat (go_quiet (fail); try go_wp2)
                go_meet
                case rel => exact ⟨_, (true), (by first | rfl | (simp; done) | (simp [*]; done)), H', ⟨by first | omega | exact Nat.le_refl _⟩, ⟨by first | exact Kd.R_nil _ _ _ _ _ | exact Kd.N_nil _ _ _ _ _ | exact Kd.V_nil _ _ _ _ _ | exact Kd.Q_nil _ _ _ _ _ | exact Kd.S_nil _ _ _ _ _⟩, ⟨by repeat (first | (with_reducible first | exact HB.out | apply below_alloc | apply pw_below_drewN | apply below_drew1) | exact HB.out)⟩⟩
          · replace c11 := Bool.eq_false_iff.mpr c11
            subst c11
            have H1 : (spec_Deltas.j0 k l0 a1 ([] : List Int) t149 t159 t152 t155 t158 true) = some (r1, r2, r3) := by rw [if_neg (show ¬ (false = true) by decide)] at H; exact H
            clear H
            have H := H1
            clear H1
            have H' := Aside0.mk H
            clear H
            go_wp2
            repeat (go_quiet (fail); try go_wp2)
            go_meet
            case rel => exact ⟨_, (true), (by first | rfl | (simp; done) | (simp [*]; done)), H', ⟨by first | omega | exact Nat.le_refl _⟩, ⟨by first | exact Kd.R_nil _ _ _ _ _ | exact Kd.N_nil _ _ _ _ _ | exact Kd.V_nil _ _ _ _ _ | exact Kd.Q_nil _ _ _ _ _ | exact Kd.S_nil _ _ _ _ _⟩, ⟨by repeat (first | (with_reducible first | exact HB.out | apply below_alloc | apply pw_below_drewN | apply below_drew1) | exact HB.out)⟩⟩
        · replace c10 := Bool.eq_false_iff.mpr c10
          subst c10
          have H1 : (spec_Deltas.j0 k l0 a1 ([] : List Int) t149 t159 t152 t155 t158 true) = some (r1, r2, r3) := by rw [if_neg (show ¬ (false = true) by decide)] at H; exact H
          clear H
          have H := H1
          clear H1
          have H' := Aside0.mk H
          clear H
          go_wp2
          repeat (go_quiet (fail); try go_wp2)
          go_meet
          case rel => exact ⟨_, (true), (by first | rfl | (simp; done) | (simp [*]; done)), H', ⟨by first | omega | exact Nat.le_refl _⟩, ⟨by first | exact Kd.R_nil _ _ _ _ _ | exact Kd.N_nil _ _ _ _ _ | exact Kd.V_nil _ _ _ _ _ | exact Kd.Q_nil _ _ _ _ _ | exact Kd.S_nil _ _ _ _ _⟩, ⟨by repeat (first | (with_reducible first | exact HB.out | apply below_alloc | apply pw_below_drewN | apply below_drew1) | exact HB.out)⟩⟩
      · replace c9 := Bool.eq_false_iff.mpr c9
        subst c9
        have H1 : (spec_Deltas.j0 k l0 a1 ([] : List Int) t149 t159 t152 t155 t158 true) = some (r1, r2, r3) := by rw [if_neg (show ¬ (false = true) by decide)] at H; exact H
        clear H
        have H := H1
        clear H1
        have H' := Aside0.mk H
        clear H
        go_wp2
        repeat (go_quiet (fail); try go_wp2)
        go_meet
        case rel => exact ⟨_, (true), (by first | rfl | (simp; done) | (simp [*]; done)), H', ⟨by first | omega | exact Nat.le_refl _⟩, ⟨by first | exact Kd.R_nil _ _ _ _ _ | exact Kd.N_nil _ _ _ _ _ | exact Kd.V_nil _ _ _ _ _ | exact Kd.Q_nil _ _ _ _ _ | exact Kd.S_nil _ _ _ _ _⟩, ⟨by repeat (first | (with_reducible first | exact HB.out | apply below_alloc | apply pw_below_drewN | apply below_drew1) | exact HB.out)⟩⟩
    · replace c8 := Bool.eq_false_iff.mpr c8
      subst c8
      have H1 : (spec_Deltas.j0 k l0 a1 ([] : List Int) t149 t159 t152 t155 t158 true) = some (r1, r2, r3) := by rw [if_neg (show ¬ (false = true) by decide)] at H; exact H
      clear H
      have H := H1
      clear H1
      have H' := Aside0.mk H
      clear H
      go_wp2
      repeat (go_quiet (fail); try go_wp2)
      go_meet
      case rel => exact ⟨_, (true), (by first | rfl | (simp; done) | (simp [*]; done)), H', ⟨by first | omega | exact Nat.le_refl _⟩, ⟨by first | exact Kd.R_nil _ _ _ _ _ | exact Kd.N_nil _ _ _ _ _ | exact Kd.V_nil _ _ _ _ _ | exact Kd.Q_nil _ _ _ _ _ | exact Kd.S_nil _ _ _ _ _⟩, ⟨by repeat (first | (with_reducible first | exact HB.out | apply below_alloc | apply pw_below_drewN | apply below_drew1) | exact HB.out)⟩⟩
  case rest => as_aux_lemma =>
    clear HC7
    try clear c1
    try clear p2
    try clear c8
    try clear c9
    try clear c10
    try clear c11
    try clear c12
    try clear c12b0
    try clear c12b1
    try clear c13
    try clear c13b0
    try clear c13b1
    try clear c14
    try clear c14b0
    try clear c15
    try clear c15b0
    try clear c15b1
    try clear c16
    try clear c16b0
    try clear c16b1
    try clear c17
    try clear c17b0
    try clear c17b1
    obtain ⟨kq, x100_6, rfl, HA, HJ6, HO_4, HB⟩ := hcut
    cases kq with
    | zero => exact absurd HA.out (by simp [spec_Deltas.j0])
    | succ kj6 =>
      have H := HA.out
      clear HA
      simp only [spec_Deltas.j0] at H
      by_cases c18 : x100_6 = true
      · subst c18
        have H1 : (some (([] : List Int), 0, false)) = some (r1, r2, r3) := by rw [if_pos rfl] at H; exact H
        clear H
        have H := H1
        clear H1
        simp only [Option.some.injEq, Prod.mk.injEq] at H
        obtain ⟨rfl, rfl, rfl⟩ := H
        go_wp2
        repeat (go_quiet (fail); try go_wp2)
        go_ret3
        exact ⟨_, by first | rfl | (simp [errW_none, errW_some] <;> rfl) | (simp [*, errW_none, errW_some] <;> rfl), by first | exact Kd.R_nil _ _ _ _ _ | exact Kd.N_nil _ _ _ _ _ | exact Kd.V_nil _ _ _ _ _ | exact Kd.Q_nil _ _ _ _ _ | exact Kd.S_nil _ _ _ _ _, by repeat (first | (with_reducible first | exact HB.out | apply below_alloc | apply pw_below_drewN | apply below_drew1) | exact HB.out)⟩
      · replace c18 := Bool.eq_false_iff.mpr c18
        subst c18
        have H1 : (if t155 = 0 then (some (([] : List Int), t159, true)) else ((spec_unzig.f t158).bind fun t161 => ((spec_wrapTo.f t161 a1).bind fun t162 => (if ([] : List Int).length < 17592186044416 then (spec_Deltas.l0 kj6 l0 a1 (([] : List Int) ++ [t162]) t149 t159 t152 t155 t162) else (none))))) = some (r1, r2, r3) := by rw [if_neg (show ¬ (false = true) by decide)] at H; exact H
        clear H
        have H := H1
        clear H1
        by_cases c19 : t155 = 0
        · rw [if_pos c19] at H
          have c19b0 : (t155 == 0) = true := beq_iff_eq.mpr c19
          have c19b1 : (t155 != 0) = false := bne_eq_false_iff_eq.mpr c19
          clear c19
          simp only [Option.some.injEq, Prod.mk.injEq] at H
          obtain ⟨rfl, rfl, rfl⟩ := H
          go_wp2
          repeat (go_quiet (fail); try go_wp2)
          go_ret3
          exact ⟨_, by first | rfl | (simp [errW_none, errW_some] <;> rfl) | (simp [*, errW_none, errW_some] <;> rfl), by first | exact Kd.R_nil _ _ _ _ _ | exact Kd.N_nil _ _ _ _ _ | exact Kd.V_nil _ _ _ _ _ | exact Kd.Q_nil _ _ _ _ _ | exact Kd.S_nil _ _ _ _ _, by repeat (first | (with_reducible first | exact HB.out | apply below_alloc | apply pw_below_drewN | apply below_drew1) | exact HB.out)⟩
        · rw [if_neg c19] at H
          have c19b0 : (t155 == 0) = false := beq_eq_false_iff_ne.mpr c19
          have c19b1 : (t155 != 0) = true := bne_iff_ne.mpr c19
          replace H := Option.bind_eq_some_iff.mp H
          obtain ⟨t161, A200, H⟩ := H
          replace H : ((spec_wrapTo.f t161 a1).bind fun t162 => (if ([] : List Int).length < 17592186044416 then (spec_Deltas.l0 kj6 l0 a1 (([] : List Int) ++ [t162]) t149 t159 t152 t155 t162) else (none))) = some (r1, r2, r3) := H
          have A20 := Aside0.mk A200
          clear A200
          replace H := Option.bind_eq_some_iff.mp H
          obtain ⟨t162, A210, H⟩ := H
          replace H : (if ([] : List Int).length < 17592186044416 then (spec_Deltas.l0 kj6 l0 a1 (([] : List Int) ++ [t162]) t149 t159 t152 t155 t162) else (none)) = some (r1, r2, r3) := H
          have A21 := Aside0.mk A210
          clear A210
          by_cases c22 : ([] : List Int).length < 17592186044416
          · rw [if_pos c22] at H
            have LMc22 := Aside0.mk c22
            clear c22
            obtain ⟨y163, hy163⟩ : ∃ y_ : List Int, y_ = (([] : List Int) ++ [t162]) := ⟨_, rfl⟩
            replace H : (spec_Deltas.l0 kj6 l0 a1 y163 t149 t159 t152 t155 t162) = some (r1, r2, r3) := by first | (rw [hy163]; with_reducible exact H) | (have H2_ := (Option.bind_some _ _).symm.trans H; rw [hy163]; with_reducible exact H2_) | (have H2_ := (Option.bind_some _ _).symm.trans H; with_reducible exact H2_) | with_reducible exact H | (rw [hy163]; exact H) | exact H
            have Ny163 := Aside0.mk hy163
            clear hy163
            have H' := Aside0.mk H
            clear H
            go_wp2_with (first | (go_at_call 15; (with_reducible refine (spec_unzig.calls t158 t161 _ A20.out).mono ?_); rintro e w' ⟨rfl, ⟨nd, rfl⟩⟩; (try first | exact ⟨rfl, _, World.drewN_drewN _ _ _⟩ | exact ⟨rfl, _, Eq.trans (World.drewN_drewN _ _ _) (congrArg (World.drewN _) (Nat.add_assoc _ _ _))⟩)) | (go_at_call 14; (with_reducible refine (spec_wrapTo.calls t161 a1 t162 _ A21.out).mono ?_); rintro e w' ⟨rfl, ⟨nd, rfl⟩⟩; (try first | exact ⟨rfl, _, World.drewN_drewN _ _ _⟩ | exact ⟨rfl, _, Eq.trans (World.drewN_drewN _ _ _) (congrArg (World.drewN _) (Nat.add_assoc _ _ _))⟩)) | ((with_reducible refine gate_builtin (b := .append) (xs := #[.tmp 108, .tmp 110]) rfl ?_); (try (refine gate_guard (by rfl) ?_; dsimp only)); at_builtin; refine Kd.R_append (Kd.int .i64) (w0 := w) w.heap.size rfl (.tmp 108) (.tmp 110) 24 2 (.int .i64 0) 8 rfl Try.underlying24 info2 rfl (by decide) (by omega) (.slice none 0 0) ([] : List Int) t162 [.int .i64 t162] (fun _ => True) (fun _ => False) rfl rfl ?aP (fun _ hk => hk.elim) ?aF ?aO ?aB ?aS ?aL ?_; (case aP => exact rfl); (case aB => exact (by repeat (first | (with_reducible first | exact HB.out | apply below_alloc | apply pw_below_drewN | apply below_drew1) | exact HB.out))); (case aF => exact (fun _ _ => trivial)); (case aO => exact (by (with_reducible repeat (first | apply Kd.R_alloc | apply Kd.R_drewN | apply Kd.R_drew)); exact HO_4.out)); (case aS => exact (below_size (by repeat (first | (with_reducible first | exact HB.out | apply below_alloc | apply pw_below_drewN | apply below_drew1) | exact HB.out)))); (case aL => have := LMc22.out; omega); intro v164 w23 ho hb hg hat; rw [← Ny163.out] at ho; have n0_ := Aside0.mk (hb); have n1_ := Aside0.mk (ho); clear HB; clear HO_4; have HB := n0_; have HO165 := n1_; clear n0_ n1_; clear ho hb hg hat))
            repeat (go_quiet (first | (go_at_call 15; (with_reducible refine (spec_unzig.calls t158 t161 _ A20.out).mono ?_); rintro e w' ⟨rfl, ⟨nd, rfl⟩⟩; (try first | exact ⟨rfl, _, World.drewN_drewN _ _ _⟩ | exact ⟨rfl, _, Eq.trans (World.drewN_drewN _ _ _) (congrArg (World.drewN _) (Nat.add_assoc _ _ _))⟩)) | (go_at_call 14; (with_reducible refine (spec_wrapTo.calls t161 a1 t162 _ A21.out).mono ?_); rintro e w' ⟨rfl, ⟨nd, rfl⟩⟩; (try first | exact ⟨rfl, _, World.drewN_drewN _ _ _⟩ | exact ⟨rfl, _, Eq.trans (World.drewN_drewN _ _ _) (congrArg (World.drewN _) (Nat.add_assoc _ _ _))⟩)) | ((with_reducible refine gate_builtin (b := .append) (xs := #[.tmp 108, .tmp 110]) rfl ?_); (try (refine gate_guard (by rfl) ?_; dsimp only)); at_builtin; refine Kd.R_append (Kd.int .i64) (w0 := w) w.heap.size rfl (.tmp 108) (.tmp 110) 24 2 (.int .i64 0) 8 rfl Try.underlying24 info2 rfl (by decide) (by omega) (.slice none 0 0) ([] : List Int) t162 [.int .i64 t162] (fun _ => True) (fun _ => False) rfl rfl ?aP (fun _ hk => hk.elim) ?aF ?aO ?aB ?aS ?aL ?_; (case aP => exact rfl); (case aB => exact (by repeat (first | (with_reducible first | exact HB.out | apply below_alloc | apply pw_below_drewN | apply below_drew1) | exact HB.out))); (case aF => exact (fun _ _ => trivial)); (case aO => exact (by (with_reducible repeat (first | apply Kd.R_alloc | apply Kd.R_drewN | apply Kd.R_drew)); exact HO_4.out)); (case aS => exact (below_size (by repeat (first | (with_reducible first | exact HB.out | apply below_alloc | apply pw_below_drewN | apply below_drew1) | exact HB.out)))); (case aL => have := LMc22.out; omega); intro v164 w23 ho hb hg hat; rw [← Ny163.out] at ho; have n0_ := Aside0.mk (hb); have n1_ := Aside0.mk (ho); clear HB; clear HO_4; have HB := n0_; have HO165 := n1_; clear n0_ n1_; clear ho hb hg hat)); try go_wp2_with (first | (go_at_call 15; (with_reducible refine (spec_unzig.calls t158 t161 _ A20.out).mono ?_); rintro e w' ⟨rfl, ⟨nd, rfl⟩⟩; (try first | exact ⟨rfl, _, World.drewN_drewN _ _ _⟩ | exact ⟨rfl, _, Eq.trans (World.drewN_drewN _ _ _) (congrArg (World.drewN _) (Nat.add_assoc _ _ _))⟩)) | (go_at_call 14; (with_reducible refine (spec_wrapTo.calls t161 a1 t162 _ A21.out).mono ?_); rintro e w' ⟨rfl, ⟨nd, rfl⟩⟩; (try first | exact ⟨rfl, _, World.drewN_drewN _ _ _⟩ | exact ⟨rfl, _, Eq.trans (World.drewN_drewN _ _ _) (congrArg (World.drewN _) (Nat.add_assoc _ _ _))⟩)) | ((with_reducible refine gate_builtin (b := .append) (xs := #[.tmp 108, .tmp 110]) rfl ?_); (try (refine gate_guard (by rfl) ?_; dsimp only)); at_builtin; refine Kd.R_append (Kd.int .i64) (w0 := w) w.heap.size rfl (.tmp 108) (.tmp 110) 24 2 (.int .i64 0) 8 rfl Try.underlying24 info2 rfl (by decide) (by omega) (.slice none 0 0) ([] : List Int) t162 [.int .i64 t162] (fun _ => True) (fun _ => False) rfl rfl ?aP (fun _ hk => hk.elim) ?aF ?aO ?aB ?aS ?aL ?_; (case aP => exact rfl); (case aB => exact (by repeat (first | (with_reducible first | exact HB.out | apply below_alloc | apply pw_below_drewN | apply below_drew1) | exact HB.out))); (case aF => exact (fun _ _ => trivial)); (case aO => exact (by (with_reducible repeat (first | apply Kd.R_alloc | apply Kd.R_drewN | apply Kd.R_drew)); exact HO_4.out)); (case aS => exact (below_size (by repeat (first | (with_reducible first | exact HB.out | apply below_alloc | apply pw_below_drewN | apply below_drew1) | exact HB.out)))); (case aL => have := LMc22.out; omega); intro v164 w23 ho hb hg hat; rw [← Ny163.out] at ho; have n0_ := Aside0.mk (hb); have n1_ := Aside0.mk (ho); clear HB; clear HO_4; have HB := n0_; have HO165 := n1_; clear n0_ n1_; clear ho hb hg hat)))
            go_loopg [4, 8, 16] kj6 (fun kq v4 v8 v16 w' => ∃ (x4_2 : List Int) (x8_2 : Int) (x16_2 : Int), v8 = .int .i64 x8_2 ∧ v16 = .int .i64 x16_2 ∧ Aside0 (spec_Deltas.l0 kq l0 a1 x4_2 t149 x8_2 t152 t155 x16_2 = some (r1, r2, r3)) ∧ Aside0 (kq ≤ kj6) ∧ Aside0 (Kd.R (Kd.int .i64) 2 w' w.heap.size (fun _ => True) v4 x4_2) ∧ Aside0 (Below w.heap.size w w'))
            case atStart => exact ⟨(y163), (t159), (t162), (by first | rfl | (simp; done) | (simp [*]; done)), (by first | rfl | (simp; done) | (simp [*]; done)), H', ⟨Nat.le_refl _⟩, ⟨by (with_reducible repeat (first | apply Kd.R_alloc | apply Kd.R_drewN | apply Kd.R_drew)); exact HO165.out⟩, ⟨by repeat (first | (with_reducible first | exact HB.out | apply below_alloc | apply pw_below_drewN | apply below_drew1) | exact HB.out)⟩⟩
            case round =>
              clear H'
              try clear c1
              try clear c2
              try clear p2
              try clear c8
              try clear c9
              try clear c10
              try clear c11
              try clear c12
              try clear c12b0
              try clear c12b1
              try clear c13
              try clear c13b0
              try clear c13b1
              try clear c14
              try clear c14b0
              try clear c15
              try clear c15b0
              try clear c15b1
              try clear c16
              try clear c16b0
              try clear c16b1
              try clear c17
              try clear c17b0
              try clear c17b1
              try clear c18
              try clear c19
              try clear c19b0
              try clear c19b1
              try clear c22
              try clear p2
              obtain ⟨x4_2, x8_2, x16_2, rfl, rfl, HA, HK2, HO_4, HB⟩ := hrel
              cases gk with
              | zero => exact absurd HA.out (by simp [spec_Deltas.l0])
              | succ k2 =>
                have H := HA.out
                clear HA
                simp only [spec_Deltas.l0] at H
                by_cases c24 : (x4_2.length : Int) < (wrap64 (t155))
                · rw [if_pos c24] at H
                  have c24b0 : decide ((x4_2.length : Int) < (wrap64 (t155))) = true := decide_eq_true c24
                  clear c24
                  replace H := Option.bind_eq_some_iff.mp H
                  obtain ⟨⟨t166, t167, t168⟩, A250, H⟩ := H
                  replace H : (if t168 = true then (spec_Deltas.j2 k2 l0 a1 x4_2 t149 t152 t155 x16_2 t166 t167 (decide ((wrap64 (t167 + (wrap64 (t152)))) > (l0.length : Int)))) else (spec_Deltas.j2 k2 l0 a1 x4_2 t149 t152 t155 x16_2 t166 t167 true)) = some (r1, r2, r3) := H
                  have A25 := Aside0.mk A250
                  clear A250
                  have HC26 := Aside0.mk H
                  clear H
                  obtain ⟨Ao27, co27, eo27⟩ := Kd.R_slice HO_4.out
                  subst eo27
                  go_upto_region 13 with (first | (go_at_call 13; (with_reducible refine (spec_leb.calls k2 _ _ l0 x8_2 t166 t167 t168 _ ?side1 ?side2 A25.out).mono ?_); (case side1 => repeat (first | exact (Kd.C_below HR0.out HB.out) | (with_reducible refine Kd.C_alloc ?_ _) | (with_reducible refine Kd.C_drewN ?_ _) | (with_reducible refine Kd.C_drew ?_))); (case side2 => exact HC0.out); rintro e w' ⟨rfl, ⟨nd, rfl⟩⟩; (try first | exact ⟨rfl, _, World.drewN_drewN _ _ _⟩ | exact ⟨rfl, _, Eq.trans (World.drewN_drewN _ _ _) (congrArg (World.drewN _) (Nat.add_assoc _ _ _))⟩)))
                  repeat (go_quiet (first | (go_at_call 13; (with_reducible refine (spec_leb.calls k2 _ _ l0 x8_2 t166 t167 t168 _ ?side1 ?side2 A25.out).mono ?_); (case side1 => repeat (first | exact (Kd.C_below HR0.out HB.out) | (with_reducible refine Kd.C_alloc ?_ _) | (with_reducible refine Kd.C_drewN ?_ _) | (with_reducible refine Kd.C_drew ?_))); (case side2 => exact HC0.out); rintro e w' ⟨rfl, ⟨nd, rfl⟩⟩; (try first | exact ⟨rfl, _, World.drewN_drewN _ _ _⟩ | exact ⟨rfl, _, Eq.trans (World.drewN_drewN _ _ _) (congrArg (World.drewN _) (Nat.add_assoc _ _ _))⟩))); go_upto_region 13 with (first | (go_at_call 13; (with_reducible refine (spec_leb.calls k2 _ _ l0 x8_2 t166 t167 t168 _ ?side1 ?side2 A25.out).mono ?_); (case side1 => repeat (first | exact (Kd.C_below HR0.out HB.out) | (with_reducible refine Kd.C_alloc ?_ _) | (with_reducible refine Kd.C_drewN ?_ _) | (with_reducible refine Kd.C_drew ?_))); (case side2 => exact HC0.out); rintro e w' ⟨rfl, ⟨nd, rfl⟩⟩; (try first | exact ⟨rfl, _, World.drewN_drewN _ _ _⟩ | exact ⟨rfl, _, Eq.trans (World.drewN_drewN _ _ _) (congrArg (World.drewN _) (Nat.add_assoc _ _ _))⟩))))
                  (try simp only [Act.put, List.setIfInBounds_toArray, List.set_cons_zero, List.set_cons_succ])
                  go_cut [134] (fun v134 wc => ∃ (kq : Nat) (x134_25 : Bool), v134 = .bool x134_25 ∧ Aside0 (spec_Deltas.j2 kq l0 a1 x4_2 t149 t152 t155 x16_2 t166 t167 x134_25 = some (r1, r2, r3)) ∧ Aside0 (kq ≤ k2) ∧ Aside0 (Kd.R (Kd.int .i64) 2 wc w.heap.size (fun _ => True) (.slice Ao27 x4_2.length co27) x4_2) ∧ Aside0 (Below w.heap.size w wc))
                  case first =>
                    have H := HC26.out
                    clear HC26
                    by_cases c28 : t168 = true
                    · subst c28
                      have H1 : (spec_Deltas.j2 k2 l0 a1 x4_2 t149 t152 t155 x16_2 t166 t167 (decide ((wrap64 (t167 + (wrap64 (t152)))) > (l0.length : Int)))) = some (r1, r2, r3) := by rw [if_pos rfl] at H; exact H
                      clear H
                      have H := H1
                      clear H1
                      have H' := Aside0.mk H
                      clear H
                      go_wp2
                      repeat (go_quiet (fail); try go_wp2)
                      go_meet
                      case rel => exact ⟨_, (decide ((wrap64 (t167 + (wrap64 (t152)))) > (l0.length : Int))), (by first | rfl | (simp; done) | (simp [*]; done)), H', ⟨by have := HJ6.out; have := HK2.out; first | omega | exact Nat.le_refl _⟩, ⟨by (with_reducible repeat (first | apply Kd.R_alloc | apply Kd.R_drewN | apply Kd.R_drew)); exact HO_4.out⟩, ⟨by repeat (first | (with_reducible first | exact HB.out | apply below_alloc | apply pw_below_drewN | apply below_drew1) | exact HB.out)⟩⟩
                    · replace c28 := Bool.eq_false_iff.mpr c28
                      subst c28
                      have H1 : (spec_Deltas.j2 k2 l0 a1 x4_2 t149 t152 t155 x16_2 t166 t167 true) = some (r1, r2, r3) := by rw [if_neg (show ¬ (false = true) by decide)] at H; exact H
                      clear H
                      have H := H1
                      clear H1
                      have H' := Aside0.mk H
                      clear H
                      go_wp2
                      repeat (go_quiet (fail); try go_wp2)
                      go_meet
                      case rel => exact ⟨_, (true), (by first | rfl | (simp; done) | (simp [*]; done)), H', ⟨by have := HJ6.out; have := HK2.out; first | omega | exact Nat.le_refl _⟩, ⟨by (with_reducible repeat (first | apply Kd.R_alloc | apply Kd.R_drewN | apply Kd.R_drew)); exact HO_4.out⟩, ⟨by repeat (first | (with_reducible first | exact HB.out | apply below_alloc | apply pw_below_drewN | apply below_drew1) | exact HB.out)⟩⟩
                  case rest => as_aux_lemma =>
                    clear HC26
                    try clear c1
                    try clear c2
                    try clear p2
                    try clear p6
                    try clear c8
                    try clear c9
                    try clear c10
                    try clear c11
                    try clear c12
                    try clear c12b0
                    try clear c12b1
                    try clear c13
                    try clear c13b0
                    try clear c13b1
                    try clear c14
                    try clear c14b0
                    try clear c15
                    try clear c15b0
                    try clear c15b1
                    try clear c16
                    try clear c16b0
                    try clear c16b1
                    try clear c17
                    try clear c17b0
                    try clear c17b1
                    try clear c18
                    try clear c19
                    try clear c19b0
                    try clear c19b1
                    try clear c22
                    try clear c24
                    try clear c24b0
                    try clear c28
                    try clear p2
                    obtain ⟨kq, x134_25, rfl, HA, HJ25, HO_4, HB⟩ := hcut
                    cases kq with
                    | zero => exact absurd HA.out (by simp [spec_Deltas.j2])
                    | succ kj25 =>
                      have H := HA.out
                      clear HA
                      simp only [spec_Deltas.j2] at H
                      by_cases c29 : x134_25 = true
                      · subst c29
                        have H1 : (some (([] : List Int), 0, false)) = some (r1, r2, r3) := by rw [if_pos rfl] at H; exact H
                        clear H
                        have H := H1
                        clear H1
                        simp only [Option.some.injEq, Prod.mk.injEq] at H
                        obtain ⟨rfl, rfl, rfl⟩ := H
                        go_wp2
                        repeat (go_quiet (fail); try go_wp2)
                        go_ret3
                        exact ⟨_, by first | rfl | (simp [errW_none, errW_some] <;> rfl) | (simp [*, errW_none, errW_some] <;> rfl), by first | exact Kd.R_nil _ _ _ _ _ | exact Kd.N_nil _ _ _ _ _ | exact Kd.V_nil _ _ _ _ _ | exact Kd.Q_nil _ _ _ _ _ | exact Kd.S_nil _ _ _ _ _, by repeat (first | (with_reducible first | exact HB.out | apply below_alloc | apply pw_below_drewN | apply below_drew1) | exact HB.out)⟩
                      · replace c29 := Bool.eq_false_iff.mpr c29
                        subst c29
                        have H1 : (if 0 ≤ t167 then (if t167 ≤ (wrap64 (t167 + (wrap64 (t152)))) then (if (wrap64 (t167 + (wrap64 (t152)))) ≤ (l0.length : Int) then (spec_Deltas.l1 kj25 l0 a1 x4_2 t149 (wrap64 (t167 + (wrap64 (t152)))) t152 t155 x16_2 t166 ((l0.take ((wrap64 (t167 + (wrap64 (t152)))) : Int).toNat).drop (t167 : Int).toNat) (((l0.take ((wrap64 (t167 + (wrap64 (t152)))) : Int).toNat).drop (t167 : Int).toNat).length : Int) 0) else (none)) else (none)) else (none)) = some (r1, r2, r3) := by rw [if_neg (show ¬ (false = true) by decide)] at H; exact H
                        clear H
                        have H := H1
                        clear H1
                        by_cases c30 : 0 ≤ t167
                        · rw [if_pos c30] at H
                          have c30b0 := eq_true c30
                          have c30b1 : decide (0 ≤ t167) = true := decide_eq_true c30
                          clear c30
                          by_cases c31 : t167 ≤ (wrap64 (t167 + (wrap64 (t152))))
                          · rw [if_pos c31] at H
                            have c31b0 := eq_true c31
                            have c31b1 : decide (t167 ≤ (wrap64 (t167 + (wrap64 (t152))))) = true := decide_eq_true c31
                            by_cases c32 : (wrap64 (t167 + (wrap64 (t152)))) ≤ (l0.length : Int)
                            · rw [if_pos c32] at H
                              have c32b0 := eq_true c32
                              have c32b1 : decide ((wrap64 (t167 + (wrap64 (t152)))) ≤ (l0.length : Int)) = true := decide_eq_true c32
                              have H' := Aside0.mk H
                              clear H
                              obtain ⟨i033, hi033, _, hsz33, _⟩ := info_parts info5
                              obtain ⟨A33, hcut33, hA33, hC33⟩ := print_mid_of (P := Try.prog) (Value.int .u8) 0 27 5 .i64 .i64 Try.underlying27 hi033 hsz33 A0 c0 l0 t167 (wrap64 (t167 + (wrap64 (t152)))) (of_decide_eq_true (by first | (with_reducible assumption) | assumption)) (by first | omega | exact of_decide_eq_true (by first | (with_reducible assumption) | assumption)) (of_decide_eq_true (by first | (with_reducible assumption) | assumption)) HC0.out
                              have HR169 := Aside0.mk (Kd.C_of_reads (h1 := fun _ => rfl) (hA33 _ (Kd.reads_of_C HR0.out)))
                              have HC169 := Aside0.mk hC33
                              clear hA33 hC33 hi033 hsz33
                              obtain ⟨ws, hws⟩ : ∃ ws, ws = ((l0.take ((wrap64 (t167 + (wrap64 (t152)))) : Int).toNat).drop (t167 : Int).toNat) := ⟨_, rfl⟩
                              rw [← hws] at H' hcut33 HR169 HC169
                              clear hws
                              go_wp2
                              repeat (go_quiet (fail); try go_wp2)
                              go_loopg [4, 8, 16, 148] kj25 (fun kq v4 v8 v16 v148 w' => ∃ (x4_4 : List Int) (x8_4 : Int) (x16_4 : Int) (x148_4 : Int), v8 = .int .i64 x8_4 ∧ v16 = .int .i64 x16_4 ∧ v148 = .int .i64 x148_4 ∧ Aside0 (spec_Deltas.l1 kq l0 a1 x4_4 t149 x8_4 t152 t155 x16_4 t166 ws (ws.length : Int) x148_4 = some (r1, r2, r3)) ∧ Aside0 (kq ≤ kj25) ∧ Aside0 (Kd.R (Kd.int .i64) 2 w' w.heap.size (fun _ => True) v4 x4_4) ∧ Aside0 (Below w.heap.size w w'))
                              case atStart => exact ⟨(x4_2), (wrap64 (t167 + (wrap64 (t152)))), (x16_2), (0), (by first | rfl | (simp; done) | (simp [*]; done)), (by first | rfl | (simp; done) | (simp [*]; done)), (by first | rfl | (simp; done) | (simp [*]; done)), H', ⟨Nat.le_refl _⟩, ⟨by (with_reducible repeat (first | apply Kd.R_alloc | apply Kd.R_drewN | apply Kd.R_drew)); exact HO_4.out⟩, ⟨by repeat (first | (with_reducible first | exact HB.out | apply below_alloc | apply pw_below_drewN | apply below_drew1) | exact HB.out)⟩⟩
                              case round =>
                                clear H'
                                try clear c1
                                try clear c2
                                try clear p2
                                try clear c3
                                try clear p6
                                try clear c8
                                try clear c9
                                try clear c10
                                try clear c11
                                try clear c12
                                try clear c12b0
                                try clear c12b1
                                try clear c13
                                try clear c13b0
                                try clear c13b1
                                try clear c14
                                try clear c14b0
                                try clear c15
                                try clear c15b0
                                try clear c15b1
                                try clear c16
                                try clear c16b0
                                try clear c16b1
                                try clear c17
                                try clear c17b0
                                try clear c17b1
                                try clear c18
                                try clear c19
                                try clear c19b0
                                try clear c19b1
                                try clear c22
                                try clear c24
                                try clear c24b0
                                try clear c28
                                try clear c29
                                try clear c30
                                try clear c30b0
                                try clear c30b1
                                try clear c31
                                try clear c31b0
                                try clear c31b1
                                try clear c32
                                try clear c32b0
                                try clear c32b1
                                try clear p2
                                try clear p6
                                obtain ⟨x4_4, x8_4, x16_4, x148_4, rfl, rfl, rfl, HA, HK4, HO_4, HB⟩ := hrel
                                cases gk with
                                | zero => exact absurd HA.out (by simp [spec_Deltas.l1])
                                | succ k4 =>
                                  have H := HA.out
                                  clear HA
                                  simp only [spec_Deltas.l1] at H
                                  by_cases c34 : x148_4 < (ws.length : Int)
                                  · rw [if_pos c34] at H
                                    have c34b0 : decide (x148_4 < (ws.length : Int)) = true := decide_eq_true c34
                                    clear c34
                                    by_cases c35 : 0 ≤ x148_4
                                    · rw [if_pos c35] at H
                                      have c35b0 : decide (0 ≤ x148_4) = true := decide_eq_true c35
                                      clear c35
                                      by_cases c36 : x148_4 < (ws.length : Int)
                                      · rw [if_pos c36] at H
                                        have c36b0 : decide (x148_4 < (ws.length : Int)) = true := decide_eq_true c36
                                        clear c36
                                        by_cases c37 : (x4_4.length : Int) = (wrap64 (t155))
                                        · rw [if_pos c37] at H
                                          have c37b0 : ((x4_4.length : Int) == (wrap64 (t155))) = true := beq_iff_eq.mpr c37
                                          have c37b1 : ((x4_4.length : Int) != (wrap64 (t155))) = false := bne_eq_false_iff_eq.mpr c37
                                          clear c37
                                          have H' := Aside0.mk H
                                          clear H
                                          have p170 : 0 ≤ (x148_4 : Int) := of_decide_eq_true (by first | (with_reducible assumption) | assumption)
                                          have q170 : x148_4 < (ws.length : Int) := of_decide_eq_true (by first | (with_reducible assumption) | assumption)
                                          obtain ⟨ad170, e170, hx170_0⟩ := Kd.at_int HR169.out x148_4 p170 q170
                                          cases e170
                                          replace hx170_0 := (HB.out.cell (World.block_lt_of_cell? w _ hx170_0)).trans hx170_0
                                          replace p170 := eq_true p170
                                          replace q170 := eq_true q170
                                          obtain ⟨Ao38, co38, eo38⟩ := Kd.R_slice HO_4.out
                                          subst eo38
                                          go_wp2
                                          repeat (go_quiet (fail); try go_wp2)
                                          go_roundg k4
                                          case measure => have := HJ6.out; have := HK2.out; have := HJ25.out; have := HK4.out; omega
                                          case rel => exact ⟨(x4_4), (x8_4), (x16_4), (by first | rfl | (simp; done) | (simp [*]; done)), (by first | rfl | (simp; done) | (simp [*]; done)), H', ⟨by have := HJ6.out; have := HK2.out; have := HJ25.out; have := HK4.out; omega⟩, ⟨by (with_reducible repeat (first | apply Kd.R_alloc | apply Kd.R_drewN | apply Kd.R_drew)); exact HO_4.out⟩, ⟨by repeat (first | (with_reducible first | exact HB.out | apply below_alloc | apply pw_below_drewN | apply below_drew1) | exact HB.out)⟩⟩
                                        · rw [if_neg c37] at H
                                          have c37b0 : ((x4_4.length : Int) == (wrap64 (t155))) = false := beq_eq_false_iff_ne.mpr c37
                                          have c37b1 : ((x4_4.length : Int) != (wrap64 (t155))) = true := bne_iff_ne.mpr c37
                                          by_cases c39 : t152 = 0
                                          · rw [if_pos c39] at H
                                            exact absurd H (by simp)
                                          · rw [if_neg c39] at H
                                            have c39b0 : (t152 == 0) = false := beq_eq_false_iff_ne.mpr c39
                                            have c39b1 : (t152 != 0) = true := bne_iff_ne.mpr c39
                                            have HC40 := Aside0.mk H
                                            clear H
                                            have p170 : 0 ≤ (x148_4 : Int) := of_decide_eq_true (by first | (with_reducible assumption) | assumption)
                                            have q170 : x148_4 < (ws.length : Int) := of_decide_eq_true (by first | (with_reducible assumption) | assumption)
                                            obtain ⟨ad170, e170, hx170_0⟩ := Kd.at_int HR169.out x148_4 p170 q170
                                            cases e170
                                            replace hx170_0 := (HB.out.cell (World.block_lt_of_cell? w _ hx170_0)).trans hx170_0
                                            replace p170 := eq_true p170
                                            replace q170 := eq_true q170
                                            obtain ⟨Ao41, co41, eo41⟩ := Kd.R_slice HO_4.out
                                            subst eo41
                                            go_upto_region 23 with (fail)
                                            repeat (go_quiet (fail); go_upto_region 23 with (fail))
                                            generalize (wrap64 (Int.tdiv (wrap64 ((wrap64 (IntKind.u64.wrap (Int.tdiv t149 t152))) * (wrap64 (rd ws x148_4)))) 8)) = z24 at HC40 ⊢
                                            generalize (wrap64 (IntKind.u64.wrap (Int.tdiv t149 t152))) = z23 at HC40 ⊢
                                            generalize rd ws x148_4 = z22 at HC40 hx170_0 ⊢
                                            go_cut [177] (fun v177 wc => ∃ (kq : Nat) (x177_39 : Bool), v177 = .bool x177_39 ∧ Aside0 (spec_Deltas.j4 kq l0 a1 x4_4 t149 x8_4 t152 t155 x16_4 t166 z22 z23 z24 ws (ws.length : Int) x148_4 x177_39 = some (r1, r2, r3)) ∧ Aside0 (kq ≤ k4) ∧ Aside0 (Kd.R (Kd.int .i64) 2 wc w.heap.size (fun _ => True) (.slice Ao41 x4_4.length co41) x4_4) ∧ Aside0 (Below w.heap.size w wc))
                                            case first =>
                                              have H := HC40.out
                                              clear HC40
                                              by_cases c42 : (wrap64 z22) > a1
                                              · rw [if_pos c42] at H
                                                have c42b0 : decide (a1 < (wrap64 z22)) = true := decide_eq_true c42
                                                clear c42
                                                (first | rw [c42b0] | (simp only [i64_w, i32_w]; rw [c42b0]) | skip)
                                                have H' := Aside0.mk H
                                                clear H
                                                go_wp2
                                                repeat (go_quiet (fail); try go_wp2)
                                                go_meet
                                                case rel => exact ⟨_, (true), (by first | rfl | (simp; done) | (simp [*]; done)), H', ⟨by have := HJ6.out; have := HK2.out; have := HJ25.out; have := HK4.out; first | omega | exact Nat.le_refl _⟩, ⟨by (with_reducible repeat (first | apply Kd.R_alloc | apply Kd.R_drewN | apply Kd.R_drew)); exact HO_4.out⟩, ⟨by repeat (first | (with_reducible first | exact HB.out | apply below_alloc | apply pw_below_drewN | apply below_drew1) | exact HB.out)⟩⟩
                                              · rw [if_neg c42] at H
                                                have c42b0 : decide (a1 < (wrap64 z22)) = false := decide_eq_false c42
                                                clear c42
                                                (first | rw [c42b0] | (simp only [i64_w, i32_w]; rw [c42b0]) | skip)
                                                have H' := Aside0.mk H
                                                clear H
                                                go_wp2
                                                repeat (go_quiet (fail); try go_wp2)
                                                go_meet
                                                case rel => exact ⟨_, (decide ((wrap64 (x8_4 + z24)) > (l0.length : Int))), (by first | rfl | (simp; done) | (simp [*]; done)), H', ⟨by have := HJ6.out; have := HK2.out; have := HJ25.out; have := HK4.out; first | omega | exact Nat.le_refl _⟩, ⟨by (with_reducible repeat (first | apply Kd.R_alloc | apply Kd.R_drewN | apply Kd.R_drew)); exact HO_4.out⟩, ⟨by repeat (first | (with_reducible first | exact HB.out | apply below_alloc | apply pw_below_drewN | apply below_drew1) | exact HB.out)⟩⟩
                                            case rest => as_aux_lemma =>
                                              clear HC40
                                              try clear c1
                                              try clear p1
                                              try clear q1
                                              try clear hx1
                                              try clear c2
                                              try clear p2
                                              try clear c3
                                              try clear c4
                                              try clear p6
                                              try clear c8
                                              try clear c9
                                              try clear c10
                                              try clear c11
                                              try clear c12
                                              try clear c12b0
                                              try clear c12b1
                                              try clear c13
                                              try clear c13b0
                                              try clear c13b1
                                              try clear c14
                                              try clear c14b0
                                              try clear c15
                                              try clear c15b0
                                              try clear c15b1
                                              try clear c16
                                              try clear c16b0
                                              try clear c16b1
                                              try clear c17
                                              try clear c17b0
                                              try clear c17b1
                                              try clear p17
                                              try clear q17
                                              try clear hx17
                                              try clear c18
                                              try clear c19
                                              try clear c19b0
                                              try clear c19b1
                                              try clear c22
                                              try clear c24
                                              try clear c24b0
                                              try clear c28
                                              try clear c29
                                              try clear c30
                                              try clear c30b0
                                              try clear c30b1
                                              try clear c31
                                              try clear c31b0
                                              try clear c31b1
                                              try clear c32
                                              try clear c32b0
                                              try clear c32b1
                                              try clear c34
                                              try clear c34b0
                                              try clear c35
                                              try clear c35b0
                                              try clear c36
                                              try clear c36b0
                                              try clear c37
                                              try clear c37b0
                                              try clear c37b1
                                              try clear c39
                                              try clear c39b0
                                              try clear c39b1
                                              try clear c42
                                              try clear c42b0
                                              try clear hx170_0
                                              try clear p170
                                              try clear p2
                                              try clear p6
                                              try clear q170
                                              obtain ⟨kq, x177_39, rfl, HA, HJ39, HO_4, HB⟩ := hcut
                                              cases kq with
                                              | zero => exact absurd HA.out (by simp [spec_Deltas.j4])
                                              | succ kj39 =>
                                                have H := HA.out
                                                clear HA
                                                simp only [spec_Deltas.j4] at H
                                                by_cases c43 : x177_39 = true
                                                · subst c43
                                                  have H1 : (some (([] : List Int), 0, false)) = some (r1, r2, r3) := by rw [if_pos rfl] at H; exact H
                                                  clear H
                                                  have H := H1
                                                  clear H1
                                                  simp only [Option.some.injEq, Prod.mk.injEq] at H
                                                  obtain ⟨rfl, rfl, rfl⟩ := H
                                                  go_wp2
                                                  repeat (go_quiet (fail); try go_wp2)
                                                  go_ret3
                                                  exact ⟨_, by first | rfl | (simp [errW_none, errW_some] <;> rfl) | (simp [*, errW_none, errW_some] <;> rfl), by first | exact Kd.R_nil _ _ _ _ _ | exact Kd.N_nil _ _ _ _ _ | exact Kd.V_nil _ _ _ _ _ | exact Kd.Q_nil _ _ _ _ _ | exact Kd.S_nil _ _ _ _ _, by repeat (first | (with_reducible first | exact HB.out | apply below_alloc | apply pw_below_drewN | apply below_drew1) | exact HB.out)⟩
                                                · replace c43 := Bool.eq_false_iff.mpr c43
                                                  subst c43
                                                  have H1 : (spec_Deltas.l2 kj39 l0 a1 x4_4 t149 x8_4 t152 t155 x16_4 t166 z22 z23 z24 0 ws (ws.length : Int) x148_4) = some (r1, r2, r3) := by rw [if_neg (show ¬ (false = true) by decide)] at H; exact H
                                                  clear H
                                                  have H := H1
                                                  clear H1
                                                  have H' := Aside0.mk H
                                                  clear H
                                                  go_wp2
                                                  repeat (go_quiet (fail); try go_wp2)
                                                  go_loopg [4, 16, 25] kj39 (fun kq v4 v16 v25 w' => ∃ (x4_6 : List Int) (x16_6 : Int) (x25_6 : Int), v16 = .int .i64 x16_6 ∧ v25 = .int .i64 x25_6 ∧ Aside0 (spec_Deltas.l2 kq l0 a1 x4_6 t149 x8_4 t152 t155 x16_6 t166 z22 z23 z24 x25_6 ws (ws.length : Int) x148_4 = some (r1, r2, r3)) ∧ Aside0 (kq ≤ kj39) ∧ Aside0 (Kd.R (Kd.int .i64) 2 w' w.heap.size (fun _ => True) v4 x4_6) ∧ Aside0 (Below w.heap.size w w'))
                                                  case atStart => exact ⟨(x4_4), (x16_4), (0), (by first | rfl | (simp; done) | (simp [*]; done)), (by first | rfl | (simp; done) | (simp [*]; done)), H', ⟨Nat.le_refl _⟩, ⟨by (with_reducible repeat (first | apply Kd.R_alloc | apply Kd.R_drewN | apply Kd.R_drew)); exact HO_4.out⟩, ⟨by repeat (first | (with_reducible first | exact HB.out | apply below_alloc | apply pw_below_drewN | apply below_drew1) | exact HB.out)⟩⟩
                                                  case round =>
                                                    clear H'
                                                    try clear c1
                                                    try clear p1
                                                    try clear q1
                                                    try clear hx1
                                                    try clear c2
                                                    try clear p2
                                                    try clear c3
                                                    try clear c4
                                                    try clear p6
                                                    try clear c8
                                                    try clear c9
                                                    try clear c10
                                                    try clear c11
                                                    try clear c12
                                                    try clear c12b0
                                                    try clear c12b1
                                                    try clear c13
                                                    try clear c13b0
                                                    try clear c13b1
                                                    try clear c14
                                                    try clear c14b0
                                                    try clear c15
                                                    try clear c15b0
                                                    try clear c15b1
                                                    try clear c16
                                                    try clear c16b0
                                                    try clear c16b1
                                                    try clear c17
                                                    try clear c17b0
                                                    try clear c17b1
                                                    try clear p17
                                                    try clear q17
                                                    try clear hx17
                                                    try clear c18
                                                    try clear c19
                                                    try clear c19b0
                                                    try clear c19b1
                                                    try clear c22
                                                    try clear c24
                                                    try clear c24b0
                                                    try clear c28
                                                    try clear c29
                                                    try clear c30
                                                    try clear c30b0
                                                    try clear c30b1
                                                    try clear c31
                                                    try clear c31b0
                                                    try clear c31b1
                                                    try clear c32
                                                    try clear c32b0
                                                    try clear c32b1
                                                    try clear c34
                                                    try clear c34b0
                                                    try clear c35
                                                    try clear c35b0
                                                    try clear c36
                                                    try clear c36b0
                                                    try clear c37
                                                    try clear c37b0
                                                    try clear c37b1
                                                    try clear c39
                                                    try clear c39b0
                                                    try clear c39b1
                                                    try clear c42
                                                    try clear c42b0
                                                    try clear c43
                                                    try clear hx170_0
                                                    try clear p1
                                                    try clear p17
                                                    try clear p170
                                                    try clear p2
                                                    try clear p6
                                                    try clear q1
                                                    try clear q17
                                                    try clear q170
                                                    obtain ⟨x4_6, x16_6, x25_6, rfl, rfl, HA, HK6, HO_4, HB⟩ := hrel
                                                    cases gk with
                                                    | zero => exact absurd HA.out (by simp [spec_Deltas.l2])
                                                    | succ k6 =>
                                                      have H := HA.out
                                                      clear HA
                                                      simp only [spec_Deltas.l2] at H
                                                      have HC44 := Aside0.mk H
                                                      clear H
                                                      go_upto_region 26 with (fail)
                                                      repeat (go_quiet (fail); go_upto_region 26 with (fail))
                                                      go_cut [187] (fun v187 wc => ∃ (kq : Nat) (x187_43 : Bool), v187 = .bool x187_43 ∧ Aside0 (spec_Deltas.j6 kq l0 a1 x4_6 t149 x8_4 t152 t155 x16_6 t166 z22 z23 z24 x25_6 ws (ws.length : Int) x148_4 x187_43 = some (r1, r2, r3)) ∧ Aside0 (kq ≤ k6) ∧ Aside0 (Kd.R (Kd.int .i64) 2 wc w.heap.size (fun _ => True) u4 x4_6) ∧ Aside0 (Below w.heap.size w wc))
                                                      case first =>
                                                        have H := HC44.out
                                                        clear HC44
                                                        by_cases c45 : x25_6 < z23
                                                        · rw [if_pos c45] at H
                                                          have c45b0 : decide (x25_6 < z23) = true := decide_eq_true c45
                                                          clear c45
                                                          (first | rw [c45b0] | (simp only [i64_w, i32_w]; rw [c45b0]) | skip)
                                                          have H' := Aside0.mk H
                                                          clear H
                                                          obtain ⟨Ao46, co46, eo46⟩ := Kd.R_slice HO_4.out
                                                          subst eo46
                                                          go_wp2
                                                          repeat (go_quiet (fail); try go_wp2)
                                                          go_meet
                                                          case rel => exact ⟨_, (decide ((x4_6.length : Int) < (wrap64 (t155)))), (by first | rfl | (simp; done) | (simp [*]; done)), H', ⟨by have := HJ6.out; have := HK2.out; have := HJ25.out; have := HK4.out; have := HJ39.out; have := HK6.out; first | omega | exact Nat.le_refl _⟩, ⟨by (with_reducible repeat (first | apply Kd.R_alloc | apply Kd.R_drewN | apply Kd.R_drew)); exact HO_4.out⟩, ⟨by repeat (first | (with_reducible first | exact HB.out | apply below_alloc | apply pw_below_drewN | apply below_drew1) | exact HB.out)⟩⟩
                                                        · rw [if_neg c45] at H
                                                          have c45b0 : decide (x25_6 < z23) = false := decide_eq_false c45
                                                          clear c45
                                                          (first | rw [c45b0] | (simp only [i64_w, i32_w]; rw [c45b0]) | skip)
                                                          have H' := Aside0.mk H
                                                          clear H
                                                          go_wp2
                                                          repeat (go_quiet (fail); try go_wp2)
                                                          go_meet
                                                          case rel => exact ⟨_, (false), (by first | rfl | (simp; done) | (simp [*]; done)), H', ⟨by have := HJ6.out; have := HK2.out; have := HJ25.out; have := HK4.out; have := HJ39.out; have := HK6.out; first | omega | exact Nat.le_refl _⟩, ⟨by (with_reducible repeat (first | apply Kd.R_alloc | apply Kd.R_drewN | apply Kd.R_drew)); exact HO_4.out⟩, ⟨by repeat (first | (with_reducible first | exact HB.out | apply below_alloc | apply pw_below_drewN | apply below_drew1) | exact HB.out)⟩⟩
                                                      case rest => as_aux_lemma =>
                                                        clear HC44
                                                        try clear c1
                                                        try clear p1
                                                        try clear q1
                                                        try clear hx1
                                                        try clear c2
                                                        try clear p2
                                                        try clear c3
                                                        try clear c4
                                                        try clear p6
                                                        try clear c8
                                                        try clear c9
                                                        try clear c10
                                                        try clear c11
                                                        try clear c12
                                                        try clear c12b0
                                                        try clear c12b1
                                                        try clear c13
                                                        try clear c13b0
                                                        try clear c13b1
                                                        try clear c14
                                                        try clear c14b0
                                                        try clear c15
                                                        try clear c15b0
                                                        try clear c15b1
                                                        try clear c16
                                                        try clear c16b0
                                                        try clear c16b1
                                                        try clear c17
                                                        try clear c17b0
                                                        try clear c17b1
                                                        try clear p17
                                                        try clear q17
                                                        try clear hx17
                                                        try clear c18
                                                        try clear c19
                                                        try clear c19b0
                                                        try clear c19b1
                                                        try clear c22
                                                        try clear c24
                                                        try clear c24b0
                                                        try clear c28
                                                        try clear c29
                                                        try clear c30
                                                        try clear c30b0
                                                        try clear c30b1
                                                        try clear c31
                                                        try clear c31b0
                                                        try clear c31b1
                                                        try clear c32
                                                        try clear c32b0
                                                        try clear c32b1
                                                        try clear c34
                                                        try clear c34b0
                                                        try clear c35
                                                        try clear c35b0
                                                        try clear c36
                                                        try clear c36b0
                                                        try clear c37
                                                        try clear c37b0
                                                        try clear c37b1
                                                        try clear c39
                                                        try clear c39b0
                                                        try clear c39b1
                                                        try clear c42
                                                        try clear c42b0
                                                        try clear c43
                                                        try clear c45
                                                        try clear c45b0
                                                        try clear hx170_0
                                                        try clear p1
                                                        try clear p17
                                                        try clear p170
                                                        try clear p2
                                                        try clear p6
                                                        try clear q1
                                                        try clear q17
                                                        try clear q170
                                                        obtain ⟨kq, x187_43, rfl, HA, HJ43, HO_4, HB⟩ := hcut
                                                        cases kq with
                                                        | zero => exact absurd HA.out (by simp [spec_Deltas.j6])
                                                        | succ kj43 =>
                                                          have H := HA.out
                                                          clear HA
                                                          simp only [spec_Deltas.j6] at H
                                                          by_cases c47 : x187_43 = true
                                                          · subst c47
                                                            have H1 : ((spec_unzig.f t166).bind fun t171 => (if 0 ≤ x8_4 then (if x8_4 ≤ (wrap64 (x8_4 + z24)) then (if (wrap64 (x8_4 + z24)) ≤ (l0.length : Int) then ((spec_packedAt.f kj43 ((l0.take ((wrap64 (x8_4 + z24)) : Int).toNat).drop (x8_4 : Int).toNat) x25_6 (wrap64 (z22))).bind fun t173 => ((spec_wrapTo.f (wrap64 ((wrap64 (x16_6 + t171)) + (wrap64 (t173)))) a1).bind fun t174 => (if x4_6.length < 17592186044416 then (spec_Deltas.l2 kj43 l0 a1 (x4_6 ++ [t174]) t149 x8_4 t152 t155 t174 t166 z22 z23 z24 (wrap64 (x25_6 + 1)) ws (ws.length : Int) x148_4) else (none)))) else (none)) else (none)) else (none))) = some (r1, r2, r3) := by rw [if_pos rfl] at H; exact H
                                                            clear H
                                                            have H := H1
                                                            clear H1
                                                            replace H := Option.bind_eq_some_iff.mp H
                                                            obtain ⟨t171, A480, H⟩ := H
                                                            replace H : (if 0 ≤ x8_4 then (if x8_4 ≤ (wrap64 (x8_4 + z24)) then (if (wrap64 (x8_4 + z24)) ≤ (l0.length : Int) then ((spec_packedAt.f kj43 ((l0.take ((wrap64 (x8_4 + z24)) : Int).toNat).drop (x8_4 : Int).toNat) x25_6 (wrap64 (z22))).bind fun t173 => ((spec_wrapTo.f (wrap64 ((wrap64 (x16_6 + t171)) + (wrap64 (t173)))) a1).bind fun t174 => (if x4_6.length < 17592186044416 then (spec_Deltas.l2 kj43 l0 a1 (x4_6 ++ [t174]) t149 x8_4 t152 t155 t174 t166 z22 z23 z24 (wrap64 (x25_6 + 1)) ws (ws.length : Int) x148_4) else (none)))) else (none)) else (none)) else (none)) = some (r1, r2, r3) := H
                                                            have A48 := Aside0.mk A480
                                                            clear A480
                                                            by_cases c49 : 0 ≤ x8_4
                                                            · rw [if_pos c49] at H
                                                              have c49b0 := eq_true c49
                                                              have c49b1 : decide (0 ≤ x8_4) = true := decide_eq_true c49
                                                              clear c49
                                                              by_cases c50 : x8_4 ≤ (wrap64 (x8_4 + z24))
                                                              · rw [if_pos c50] at H
                                                                have c50b0 := eq_true c50
                                                                have c50b1 : decide (x8_4 ≤ (wrap64 (x8_4 + z24))) = true := decide_eq_true c50
                                                                by_cases c51 : (wrap64 (x8_4 + z24)) ≤ (l0.length : Int)
                                                                · rw [if_pos c51] at H
                                                                  have c51b0 := eq_true c51
                                                                  have c51b1 : decide ((wrap64 (x8_4 + z24)) ≤ (l0.length : Int)) = true := decide_eq_true c51
                                                                  replace H := Option.bind_eq_some_iff.mp H
                                                                  obtain ⟨t173, A520, H⟩ := H
                                                                  replace H : ((spec_wrapTo.f (wrap64 ((wrap64 (x16_6 + t171)) + (wrap64 (t173)))) a1).bind fun t174 => (if x4_6.length < 17592186044416 then (spec_Deltas.l2 kj43 l0 a1 (x4_6 ++ [t174]) t149 x8_4 t152 t155 t174 t166 z22 z23 z24 (wrap64 (x25_6 + 1)) ws (ws.length : Int) x148_4) else (none))) = some (r1, r2, r3) := H
                                                                  have A52 := Aside0.mk A520
                                                                  clear A520
                                                                  replace H := Option.bind_eq_some_iff.mp H
                                                                  obtain ⟨t174, A530, H⟩ := H
                                                                  replace H : (if x4_6.length < 17592186044416 then (spec_Deltas.l2 kj43 l0 a1 (x4_6 ++ [t174]) t149 x8_4 t152 t155 t174 t166 z22 z23 z24 (wrap64 (x25_6 + 1)) ws (ws.length : Int) x148_4) else (none)) = some (r1, r2, r3) := H
                                                                  have A53 := Aside0.mk A530
                                                                  clear A530
                                                                  by_cases c54 : x4_6.length < 17592186044416
                                                                  · rw [if_pos c54] at H
                                                                    have LMc54 := Aside0.mk c54
                                                                    clear c54
                                                                    obtain ⟨y175, hy175⟩ : ∃ y_ : List Int, y_ = (x4_6 ++ [t174]) := ⟨_, rfl⟩
                                                                    replace H : (spec_Deltas.l2 kj43 l0 a1 y175 t149 x8_4 t152 t155 t174 t166 z22 z23 z24 (wrap64 (x25_6 + 1)) ws (ws.length : Int) x148_4) = some (r1, r2, r3) := by first | (rw [hy175]; with_reducible exact H) | (have H2_ := (Option.bind_some _ _).symm.trans H; rw [hy175]; with_reducible exact H2_) | (have H2_ := (Option.bind_some _ _).symm.trans H; with_reducible exact H2_) | with_reducible exact H | (rw [hy175]; exact H) | exact H
                                                                    have Ny175 := Aside0.mk hy175
                                                                    clear hy175
                                                                    have H' := Aside0.mk H
                                                                    clear H
                                                                    obtain ⟨i055, hi055, _, hsz55, _⟩ := info_parts info5
                                                                    obtain ⟨A55, hcut55, hA55, hC55⟩ := print_mid_of (P := Try.prog) (Value.int .u8) 0 27 5 .i64 .i64 Try.underlying27 hi055 hsz55 A0 c0 l0 x8_4 (wrap64 (x8_4 + z24)) (of_decide_eq_true (by first | (with_reducible assumption) | assumption)) (by first | omega | exact of_decide_eq_true (by first | (with_reducible assumption) | assumption)) (of_decide_eq_true (by first | (with_reducible assumption) | assumption)) HC0.out
                                                                    have HR172 := Aside0.mk (Kd.C_of_reads (h1 := fun _ => rfl) (hA55 _ (Kd.reads_of_C HR0.out)))
                                                                    have HC172 := Aside0.mk hC55
                                                                    clear hA55 hC55 hi055 hsz55
                                                                    obtain ⟨ps, hps⟩ : ∃ ps, ps = ((l0.take ((wrap64 (x8_4 + z24)) : Int).toNat).drop (x8_4 : Int).toNat) := ⟨_, rfl⟩
                                                                    rw [← hps] at hcut55 HR172 HC172 A52
                                                                    clear hps
                                                                    have hcut55b := hcut55
                                                                    rw [show ∀ x : Int, wrap64 (x8_4 + x) = IntKind.i64.wrap (x8_4 + x) from fun x => (i64_w _).symm] at hcut55b
                                                                    go_wp2_with (first | (go_at_call 15; (with_reducible refine (spec_unzig.calls t166 t171 _ A48.out).mono ?_); rintro e w' ⟨rfl, ⟨nd, rfl⟩⟩; (try first | exact ⟨rfl, _, World.drewN_drewN _ _ _⟩ | exact ⟨rfl, _, Eq.trans (World.drewN_drewN _ _ _) (congrArg (World.drewN _) (Nat.add_assoc _ _ _))⟩)) | (go_at_call 16; try simp only [i64_w]; (with_reducible refine (spec_packedAt.calls kj43 _ _ ps x25_6 (wrap64 (z22)) t173 _ ?side1 ?side2 A52.out).mono ?_); (case side1 => repeat (first | exact (Kd.C_below HR172.out (by repeat (first | (with_reducible first | exact HB.out | apply below_alloc | apply pw_below_drewN | apply below_drew1) | exact HB.out))) | (with_reducible refine Kd.C_alloc ?_ _) | (with_reducible refine Kd.C_drewN ?_ _) | (with_reducible refine Kd.C_drew ?_))); (case side2 => exact HC172.out); rintro e w' ⟨rfl, ⟨nd, rfl⟩⟩; (try first | exact ⟨rfl, _, World.drewN_drewN _ _ _⟩ | exact ⟨rfl, _, Eq.trans (World.drewN_drewN _ _ _) (congrArg (World.drewN _) (Nat.add_assoc _ _ _))⟩)) | (go_at_call 14; try simp only [i64_w]; (with_reducible refine (spec_wrapTo.calls (wrap64 ((wrap64 (x16_6 + t171)) + (wrap64 (t173)))) a1 t174 _ A53.out).mono ?_); rintro e w' ⟨rfl, ⟨nd, rfl⟩⟩; (try first | exact ⟨rfl, _, World.drewN_drewN _ _ _⟩ | exact ⟨rfl, _, Eq.trans (World.drewN_drewN _ _ _) (congrArg (World.drewN _) (Nat.add_assoc _ _ _))⟩)) | ((with_reducible refine gate_builtin (b := .append) (xs := #[.tmp 208, .tmp 210]) rfl ?_); (try (refine gate_guard (by rfl) ?_; dsimp only)); at_builtin; refine Kd.R_append (Kd.int .i64) (w0 := w) w.heap.size rfl (.tmp 208) (.tmp 210) 24 2 (.int .i64 0) 8 rfl Try.underlying24 info2 rfl (by decide) (by omega) u4 x4_6 t174 [.int .i64 t174] (fun _ => True) (fun _ => False) rfl rfl ?aP (fun _ hk => hk.elim) ?aF ?aO ?aB ?aS ?aL ?_; (case aP => exact rfl); (case aB => exact (by repeat (first | (with_reducible first | exact HB.out | apply below_alloc | apply pw_below_drewN | apply below_drew1) | exact HB.out))); (case aF => exact (fun _ _ => trivial)); (case aO => exact (by (with_reducible repeat (first | apply Kd.R_alloc | apply Kd.R_drewN | apply Kd.R_drew)); exact HO_4.out)); (case aS => exact (below_size (by repeat (first | (with_reducible first | exact HB.out | apply below_alloc | apply pw_below_drewN | apply below_drew1) | exact HB.out)))); (case aL => have := LMc54.out; omega); intro v176 w56 ho hb hg hat; rw [← Ny175.out] at ho; have n0_ := Aside0.mk (hb); have n1_ := Aside0.mk (ho); clear HB; clear HO_4; have HB := n0_; have HO177 := n1_; clear n0_ n1_; clear ho hb hg hat))
                                                                    repeat (go_quiet (first | (go_at_call 15; (with_reducible refine (spec_unzig.calls t166 t171 _ A48.out).mono ?_); rintro e w' ⟨rfl, ⟨nd, rfl⟩⟩; (try first | exact ⟨rfl, _, World.drewN_drewN _ _ _⟩ | exact ⟨rfl, _, Eq.trans (World.drewN_drewN _ _ _) (congrArg (World.drewN _) (Nat.add_assoc _ _ _))⟩)) | (go_at_call 16; try simp only [i64_w]; (with_reducible refine (spec_packedAt.calls kj43 _ _ ps x25_6 (wrap64 (z22)) t173 _ ?side1 ?side2 A52.out).mono ?_); (case side1 => repeat (first | exact (Kd.C_below HR172.out (by repeat (first | (with_reducible first | exact HB.out | apply below_alloc | apply pw_below_drewN | apply below_drew1) | exact HB.out))) | (with_reducible refine Kd.C_alloc ?_ _) | (with_reducible refine Kd.C_drewN ?_ _) | (with_reducible refine Kd.C_drew ?_))); (case side2 => exact HC172.out); rintro e w' ⟨rfl, ⟨nd, rfl⟩⟩; (try first | exact ⟨rfl, _, World.drewN_drewN _ _ _⟩ | exact ⟨rfl, _, Eq.trans (World.drewN_drewN _ _ _) (congrArg (World.drewN _) (Nat.add_assoc _ _ _))⟩)) | (go_at_call 14; try simp only [i64_w]; (with_reducible refine (spec_wrapTo.calls (wrap64 ((wrap64 (x16_6 + t171)) + (wrap64 (t173)))) a1 t174 _ A53.out).mono ?_); rintro e w' ⟨rfl, ⟨nd, rfl⟩⟩; (try first | exact ⟨rfl, _, World.drewN_drewN _ _ _⟩ | exact ⟨rfl, _, Eq.trans (World.drewN_drewN _ _ _) (congrArg (World.drewN _) (Nat.add_assoc _ _ _))⟩)) | ((with_reducible refine gate_builtin (b := .append) (xs := #[.tmp 208, .tmp 210]) rfl ?_); (try (refine gate_guard (by rfl) ?_; dsimp only)); at_builtin; refine Kd.R_append (Kd.int .i64) (w0 := w) w.heap.size rfl (.tmp 208) (.tmp 210) 24 2 (.int .i64 0) 8 rfl Try.underlying24 info2 rfl (by decide) (by omega) u4 x4_6 t174 [.int .i64 t174] (fun _ => True) (fun _ => False) rfl rfl ?aP (fun _ hk => hk.elim) ?aF ?aO ?aB ?aS ?aL ?_; (case aP => exact rfl); (case aB => exact (by repeat (first | (with_reducible first | exact HB.out | apply below_alloc | apply pw_below_drewN | apply below_drew1) | exact HB.out))); (case aF => exact (fun _ _ => trivial)); (case aO => exact (by (with_reducible repeat (first | apply Kd.R_alloc | apply Kd.R_drewN | apply Kd.R_drew)); exact HO_4.out)); (case aS => exact (below_size (by repeat (first | (with_reducible first | exact HB.out | apply below_alloc | apply pw_below_drewN | apply below_drew1) | exact HB.out)))); (case aL => have := LMc54.out; omega); intro v176 w56 ho hb hg hat; rw [← Ny175.out] at ho; have n0_ := Aside0.mk (hb); have n1_ := Aside0.mk (ho); clear HB; clear HO_4; have HB := n0_; have HO177 := n1_; clear n0_ n1_; clear ho hb hg hat)); try go_wp2_with (first | (go_at_call 15; (with_reducible refine (spec_unzig.calls t166 t171 _ A48.out).mono ?_); rintro e w' ⟨rfl, ⟨nd, rfl⟩⟩; (try first | exact ⟨rfl, _, World.drewN_drewN _ _ _⟩ | exact ⟨rfl, _, Eq.trans (World.drewN_drewN _ _ _) (congrArg (World.drewN _) (Nat.add_assoc _ _ _))⟩)) | (go_at_call 16; try simp only [i64_w]; (with_reducible refine (spec_packedAt.calls kj43 _ _ ps x25_6 (wrap64 (z22)) t173 _ ?side1 ?side2 A52.out).mono ?_); (case side1 => repeat (first | exact (Kd.C_below HR172.out (by repeat (first | (with_reducible first | exact HB.out | apply below_alloc | apply pw_below_drewN | apply below_drew1) | exact HB.out))) | (with_reducible refine Kd.C_alloc ?_ _) | (with_reducible refine Kd.C_drewN ?_ _) | (with_reducible refine Kd.C_drew ?_))); (case side2 => exact HC172.out); rintro e w' ⟨rfl, ⟨nd, rfl⟩⟩; (try first | exact ⟨rfl, _, World.drewN_drewN _ _ _⟩ | exact ⟨rfl, _, Eq.trans (World.drewN_drewN _ _ _) (congrArg (World.drewN _) (Nat.add_assoc _ _ _))⟩)) | (go_at_call 14; try simp only [i64_w]; (with_reducible refine (spec_wrapTo.calls (wrap64 ((wrap64 (x16_6 + t171)) + (wrap64 (t173)))) a1 t174 _ A53.out).mono ?_); rintro e w' ⟨rfl, ⟨nd, rfl⟩⟩; (try first | exact ⟨rfl, _, World.drewN_drewN _ _ _⟩ | exact ⟨rfl, _, Eq.trans (World.drewN_drewN _ _ _) (congrArg (World.drewN _) (Nat.add_assoc _ _ _))⟩)) | ((with_reducible refine gate_builtin (b := .append) (xs := #[.tmp 208, .tmp 210]) rfl ?_); (try (refine gate_guard (by rfl) ?_; dsimp only)); at_builtin; refine Kd.R_append (Kd.int .i64) (w0 := w) w.heap.size rfl (.tmp 208) (.tmp 210) 24 2 (.int .i64 0) 8 rfl Try.underlying24 info2 rfl (by decide) (by omega) u4 x4_6 t174 [.int .i64 t174] (fun _ => True) (fun _ => False) rfl rfl ?aP (fun _ hk => hk.elim) ?aF ?aO ?aB ?aS ?aL ?_; (case aP => exact rfl); (case aB => exact (by repeat (first | (with_reducible first | exact HB.out | apply below_alloc | apply pw_below_drewN | apply below_drew1) | exact HB.out))); (case aF => exact (fun _ _ => trivial)); (case aO => exact (by (with_reducible repeat (first | apply Kd.R_alloc | apply Kd.R_drewN | apply Kd.R_drew)); exact HO_4.out)); (case aS => exact (below_size (by repeat (first | (with_reducible first | exact HB.out | apply below_alloc | apply pw_below_drewN | apply below_drew1) | exact HB.out)))); (case aL => have := LMc54.out; omega); intro v176 w56 ho hb hg hat; rw [← Ny175.out] at ho; have n0_ := Aside0.mk (hb); have n1_ := Aside0.mk (ho); clear HB; clear HO_4; have HB := n0_; have HO177 := n1_; clear n0_ n1_; clear ho hb hg hat)))
                                                                    go_roundg kj43
                                                                    case measure => have := HJ6.out; have := HK2.out; have := HJ25.out; have := HK4.out; have := HJ39.out; have := HK6.out; have := HJ43.out; omega
                                                                    case rel => exact ⟨(y175), (t174), (wrap64 (x25_6 + 1)), (by first | rfl | (simp; done) | (simp [*]; done)), (by first | rfl | (simp; done) | (simp [*]; done)), H', ⟨by have := HJ6.out; have := HK2.out; have := HJ25.out; have := HK4.out; have := HJ39.out; have := HK6.out; have := HJ43.out; omega⟩, ⟨by (with_reducible repeat (first | apply Kd.R_alloc | apply Kd.R_drewN | apply Kd.R_drew)); exact HO177.out⟩, ⟨by repeat (first | (with_reducible first | exact HB.out | apply below_alloc | apply pw_below_drewN | apply below_drew1) | exact HB.out)⟩⟩
                                                                  · rw [if_neg c54] at H
                                                                    exact absurd H (by simp)
                                                                · rw [if_neg c51] at H
                                                                  exact absurd H (by simp)
                                                              · rw [if_neg c50] at H
                                                                exact absurd H (by simp)
                                                            · rw [if_neg c49] at H
                                                              exact absurd H (by simp)
                                                          · replace c47 := Bool.eq_false_iff.mpr c47
                                                            subst c47
                                                            have H1 : (spec_Deltas.l1 kj43 l0 a1 x4_6 t149 (wrap64 (x8_4 + z24)) t152 t155 x16_6 t166 ws (ws.length : Int) (wrap64 (x148_4 + 1))) = some (r1, r2, r3) := by rw [if_neg (show ¬ (false = true) by decide)] at H; exact H
                                                            clear H
                                                            have H := H1
                                                            clear H1
                                                            have H' := Aside0.mk H
                                                            clear H
                                                            go_wp2
                                                            repeat (go_quiet (fail); try go_wp2)
                                                            go_roundg kj43
                                                            case measure => have := HJ6.out; have := HK2.out; have := HJ25.out; have := HK4.out; have := HJ39.out; have := HK6.out; have := HJ43.out; omega
                                                            case rel => exact ⟨(x4_6), (wrap64 (x8_4 + z24)), (x16_6), (wrap64 (x148_4 + 1)), (by first | rfl | (simp; done) | (simp [*]; done)), (by first | rfl | (simp; done) | (simp [*]; done)), (by first | rfl | (simp; done) | (simp [*]; done)), H', ⟨by have := HJ6.out; have := HK2.out; have := HJ25.out; have := HK4.out; have := HJ39.out; have := HK6.out; have := HJ43.out; omega⟩, ⟨by (with_reducible repeat (first | apply Kd.R_alloc | apply Kd.R_drewN | apply Kd.R_drew)); exact HO_4.out⟩, ⟨by repeat (first | (with_reducible first | exact HB.out | apply below_alloc | apply pw_below_drewN | apply below_drew1) | exact HB.out)⟩⟩
                                      · rw [if_neg c36] at H
                                        exact absurd H (by simp)
                                    · rw [if_neg c35] at H
                                      exact absurd H (by simp)
                                  · rw [if_neg c34] at H
                                    have c34b0 : decide (x148_4 < (ws.length : Int)) = false := decide_eq_false c34
                                    clear c34
                                    have H' := Aside0.mk H
                                    clear H
                                    go_wp2
                                    repeat (go_quiet (fail); try go_wp2)
                                    go_roundg k4
                                    case measure => have := HJ6.out; have := HK2.out; have := HJ25.out; have := HK4.out; omega
                                    case rel => exact ⟨(x4_4), (x8_4), (x16_4), (by first | rfl | (simp; done) | (simp [*]; done)), (by first | rfl | (simp; done) | (simp [*]; done)), H', ⟨by have := HJ6.out; have := HK2.out; have := HJ25.out; have := HK4.out; omega⟩, ⟨by (with_reducible repeat (first | apply Kd.R_alloc | apply Kd.R_drewN | apply Kd.R_drew)); exact HO_4.out⟩, ⟨by repeat (first | (with_reducible first | exact HB.out | apply below_alloc | apply pw_below_drewN | apply below_drew1) | exact HB.out)⟩⟩
                            · rw [if_neg c32] at H
                              exact absurd H (by simp)
                          · rw [if_neg c31] at H
                            exact absurd H (by simp)
                        · rw [if_neg c30] at H
                          exact absurd H (by simp)
                · rw [if_neg c24] at H
                  have c24b0 : decide ((x4_2.length : Int) < (wrap64 (t155))) = false := decide_eq_false c24
                  clear c24
                  simp only [Option.some.injEq, Prod.mk.injEq] at H
                  obtain ⟨rfl, rfl, rfl⟩ := H
                  obtain ⟨Ao57, co57, eo57⟩ := Kd.R_slice HO_4.out
                  subst eo57
                  go_wp2
                  repeat (go_quiet (fail); try go_wp2)
                  go_ret3
                  exact ⟨_, by first | rfl | (simp [errW_none, errW_some] <;> rfl) | (simp [*, errW_none, errW_some] <;> rfl), by (with_reducible repeat (first | apply Kd.R_alloc | apply Kd.R_drewN | apply Kd.R_drew)); exact HO_4.out, by repeat (first | (with_reducible first | exact HB.out | apply below_alloc | apply pw_below_drewN | apply below_drew1) | exact HB.out)⟩
          · rw [if_neg c22] at H
            exact absurd H (by simp)

end Go.Proofs.Ytdekingogcmboaa.Q
