-- written by programs of ours (wip/tools) out of the kit's printer: the functions of one law, less those that are shared or proved by hand
import Derived.Test.YtiieljnllgeoeaaGreatQ0
import Derived.Test.YtiieljnllgeoeaaGreatQDKb
namespace Go.Proofs.YtiieljnllgeoeaaGreat.Q
open Go.RowKit Go.Proofs.YtiieljnllgeoeaaGreatW.PrintWords Go.Proofs.YtiieljnllgeoeaaGreatW.PrintLast Go.Proofs.YtiieljnllgeoeaaGreatW.PrintMore
attribute [local go_sem] max2_int min2_int max_two min_two max_three min_three max_four min_four
set_option linter.unusedVariables false
set_option linter.unusedSimpArgs false

/-! ### spec_PlainAll: function 22 -/
def spec_PlainAll.l0 : Nat → List (S29) → List (S29) → Int → Int → Int → Int → Bool → Int → Int → Int → ByteArray → Bool → List Int → List Int → Option (Bool)
 | 0, _, _, _, _, _, _, _, _, _, _, _, _, _, _ => none
 | k + 1, x1, x7, x8, x9, x134000, x134001, x134002, x134003, x134004, x134005, x134006, x134007, x134008, x134009 => if x9 < x8 then (if 0 ≤ x9 then (if x9 < (x7.length : Int) then (if (rd_T29 x7 x9).f0 = true then (some false) else ((spec_OneFits.f k x134000 x134001 x134002 x134003 x134004 x134005 x134006 x134007 x134008 x134009 ((rd_T29 x7 x9).f0) ((rd_T29 x7 x9).f1) ((rd_T29 x7 x9).f2) ((rd_T29 x7 x9).f3)).bind fun t136 => (if t136 = true then (spec_PlainAll.l0 k x1 x7 x8 (wrap64 (x9 + 1)) x134000 x134001 x134002 x134003 x134004 x134005 x134006 x134007 x134008 x134009) else (some false)))) else (none)) else (none)) else (some (decide ((x1.length : Int) ≤ 500)))
def spec_PlainAll.f (k : Nat) (a0_0 : Int) (a0_1 : Int) (a0_2 : Bool) (a0_3 : Int) (a0_4 : Int) (a0_5 : Int) (a0_6 : ByteArray) (a0_7 : Bool) (l0_8 : List Int) (l0_9 : List Int) (l1 : List (S29)) : Option (Bool) := spec_PlainAll.l0 k l1 l1 (l1.length : Int) 0 a0_0 a0_1 a0_2 a0_3 a0_4 a0_5 a0_6 a0_7 l0_8 l0_9
theorem spec_PlainAll.mono_l : ∀ k, (∀ y0 y1 y2 y3 y4 y5 y6 y7 y8 y9 y10 y11 y12 y13, LeO (spec_PlainAll.l0 k y0 y1 y2 y3 y4 y5 y6 y7 y8 y9 y10 y11 y12 y13) (spec_PlainAll.l0 (k + 1) y0 y1 y2 y3 y4 y5 y6 y7 y8 y9 y10 y11 y12 y13))
 | 0 => fun _ _ _ _ _ _ _ _ _ _ _ _ _ _ r h => by simp [spec_PlainAll.l0] at h
 | k + 1 => by
  have ih0 := spec_PlainAll.mono_l k
  ·intro y0 y1 y2 y3 y4 y5 y6 y7 y8 y9 y10 y11 y12 y13
   unfold spec_PlainAll.l0
   repeat' first
   | (with_reducible exact ih0 _ _ _ _ _ _ _ _ _ _ _ _ _ _)
   | (with_reducible exact spec_OneFits.mono _ _ _ _ _ _ _ _ _ _ _ _ _ _ _)
   | (with_reducible exact LeO.refl _)
   | (with_reducible exact LeO.none _)
   | (with_reducible refine LeO.ite ?_ ?_)
   | (with_reducible refine LeO.bind ?_ (fun _ => ?_))
   | exact ih0 _ _ _ _ _ _ _ _ _ _ _ _ _ _
   | exact spec_OneFits.mono _ _ _ _ _ _ _ _ _ _ _ _ _ _ _
   | exact LeO.none _
   | refine LeO.ite ?_ ?_
   | refine LeO.bind ?_ (fun _ => ?_)
theorem spec_PlainAll.mono : ∀ a0 a1 a2 a3 a4 a5 a6 a7 a8 a9 a10 k, LeO (spec_PlainAll.f k a0 a1 a2 a3 a4 a5 a6 a7 a8 a9 a10) (spec_PlainAll.f (k + 1) a0 a1 a2 a3 a4 a5 a6 a7 a8 a9 a10) := by
 intro a0 a1 a2 a3 a4 a5 a6 a7 a8 a9 a10 k
 have ih0 := spec_PlainAll.mono_l k
 unfold spec_PlainAll.f
 repeat' first
   | (with_reducible exact ih0 _ _ _ _ _ _ _ _ _ _ _ _ _ _)
   | (with_reducible exact spec_OneFits.mono _ _ _ _ _ _ _ _ _ _ _ _ _ _ _)
   | (with_reducible exact LeO.refl _)
   | (with_reducible exact LeO.none _)
   | (with_reducible refine LeO.ite ?_ ?_)
   | (with_reducible refine LeO.bind ?_ (fun _ => ?_))
   | exact ih0 _ _ _ _ _ _ _ _ _ _ _ _ _ _
   | exact spec_OneFits.mono _ _ _ _ _ _ _ _ _ _ _ _ _ _ _
   | exact LeO.none _
   | refine LeO.ite ?_ ?_
   | refine LeO.bind ?_ (fun _ => ?_)
set_option maxHeartbeats 8000000 in
set_option maxRecDepth 100000 in
theorem spec_PlainAll.calls (k : Nat) (a0_0 : Int) (a0_1 : Int) (a0_2 : Bool) (a0_3 : Int) (a0_4 : Int) (a0_5 : Int) (a0_6 : ByteArray) (a0_7 : Bool) (A0_8 : Option Addr) (c0_8 : Nat) (l0_8 : List Int) (A0_9 : Option Addr) (c0_9 : Nat) (l0_9 : List Int) (A1 : Option Addr) (c1 : Nat) (l1 : List (S29)) (r : Bool) (w : World) (hr0_8 : Kd.C (Kd.int .i64) w A0_8 l0_8.length l0_8) (hc0_8 : l0_8.length ≤ c0_8) (hr0_9 : Kd.C (Kd.int .i64) w A0_9 l0_9.length l0_9) (hc0_9 : l0_9.length ≤ c0_9) (hr1 : Kd.C k29 w A1 l1.length l1) (hc1 : l1.length ≤ c1) (h : spec_PlainAll.f k a0_0 a0_1 a0_2 a0_3 a0_4 a0_5 a0_6 a0_7 l0_8 l0_9 l1 = some r) :
  Calls Tryz.prog 22 #[.agg #[.int .i64 a0_0, .int .i64 a0_1, .bool a0_2, .int .i64 a0_3, .int .i64 a0_4, .int .i64 a0_5, .string a0_6, .bool a0_7, .slice A0_8 l0_8.length c0_8, .slice A0_9 l0_9.length c0_9], .slice A1 l1.length c1] w fun e w' => e = .returned (.bool r) ∧ Below w.heap.size w w' := by
 have hu35 := Tryz.underlying35
 have hu29 := Tryz.underlying29
 have HR0_8 := Aside0.mk hr0_8
 have HC0_8 := Aside0.mk hc0_8
 clear hr0_8 hc0_8
 have HR0_9 := Aside0.mk hr0_9
 have HC0_9 := Aside0.mk hc0_9
 clear hr0_9 hc0_9
 have HR1 := Aside0.mk hr1
 have HC1 := Aside0.mk hc1
 clear hr1 hc1
 have HB := Aside0.mk (Below.refl w.heap.size w)
 have H : (spec_PlainAll.l0 k l1 l1 (l1.length : Int) 0 a0_0 a0_1 a0_2 a0_3 a0_4 a0_5 a0_6 a0_7 l0_8 l0_9) = some r := h
 clear h
 have H' := Aside0.mk H
 clear H
 go_enter Tryz.func22, Tryz.ntmps22
 go_wp2_with (first | ((with_reducible refine gate_dst (N := 2) rfl ?_); refine box_event ?hg (N := 2) ?hd (cs := #[.int .i64 a0_0, .int .i64 a0_1, .bool a0_2, .int .i64 a0_3, .int .i64 a0_4, .int .i64 a0_5, .string a0_6, .bool a0_7, .slice A0_8 l0_8.length c0_8, .slice A0_9 l0_9.length c0_9]) (t := 35) ?hr ?_; (case hd => rfl); (case hg => rfl); (case hr => first | (go_simp; done) | (go_simp; rfl)); intro gb133 hg w3 hbox hb; have n0_ := Aside0.mk (below_step (by repeat (first | (with_reducible first | exact HB.out | apply below_alloc | apply pw_below_drewN | apply below_drew1) | exact HB.out)) hb); have n1_ := Aside0.mk (hbox); have n2_ := Aside0.mk ((by rw [hg]; exact (below_size (by repeat (first | (with_reducible first | exact HB.out | apply below_alloc | apply pw_below_drewN | apply below_drew1) | exact HB.out))) : w.heap.size ≤ gb133)); have n3_ := Aside0.mk ((by rw [hg]; exact (below_size (by repeat (first | (with_reducible first | exact HB.out | apply below_alloc | apply pw_below_drewN | apply below_drew1) | exact HB.out))) : w.heap.size ≤ gb133)); clear HB; have HB := n0_; have BK133 := n1_; have GW133 := n2_; have GE133 := n3_; clear n0_ n1_ n2_ n3_; clear hb hbox hg))
 go_loopg [9] k (fun kq v9 w' => ∃ (x9_1 : Int), v9 = .int .i64 x9_1 ∧ Aside0 (spec_PlainAll.l0 kq l1 l1 (l1.length : Int) x9_1 a0_0 a0_1 a0_2 a0_3 a0_4 a0_5 a0_6 a0_7 l0_8 l0_9 = some r) ∧ Aside0 (kq ≤ k) ∧ Aside0 (w'.heap[gb133]? = some (.cells #[.int .i64 a0_0, .int .i64 a0_1, .bool a0_2, .int .i64 a0_3, .int .i64 a0_4, .int .i64 a0_5, .string a0_6, .bool a0_7, (.slice A0_8 l0_8.length c0_8), (.slice A0_9 l0_9.length c0_9)] 35 (0, 0))) ∧ Aside0 (Below w.heap.size w w'))
 case atStart => exact ⟨(0), (by first | rfl | (simp; done) | (simp [*]; done)), H', ⟨Nat.le_refl _⟩, ⟨by (with_reducible repeat (first | refine blk_drewN ?_ _ | refine blk_drew ?_ | refine blk_alloc ?_ _)); exact BK133.out⟩, ⟨by repeat (first | (with_reducible first | exact HB.out | apply below_alloc | apply pw_below_drewN | apply below_drew1 | refine below_set ?_ GE133.out) | exact HB.out)⟩⟩
 case round =>
  clear H'
  try clear c1
  try clear c2
  try clear p2
  obtain ⟨x9_1, rfl, HA, HK1, BK133, HB⟩ := hrel
  cases gk with
  | zero => exact absurd HA.out (by simp [spec_PlainAll.l0])
  | succ k1 =>
   have H := HA.out
   clear HA
   simp only [spec_PlainAll.l0] at H
   by_cases c4 : x9_1 < (l1.length : Int)
   ·rw [if_pos c4] at H
    have c4b0 : decide (x9_1 < (l1.length : Int)) = true := decide_eq_true c4
    clear c4
    by_cases c5 : 0 ≤ x9_1
    ·rw [if_pos c5] at H
     have c5b0 : decide (0 ≤ x9_1) = true := decide_eq_true c5
     clear c5
     by_cases c6 : x9_1 < (l1.length : Int)
     ·rw [if_pos c6] at H
      have c6b0 : decide (x9_1 < (l1.length : Int)) = true := decide_eq_true c6
      clear c6
      obtain ⟨bq7, hbq7⟩ : ∃ b_ : Bool, b_ = ((rd_T29 l1 x9_1).f0) := ⟨_, rfl⟩
      replace H : (if bq7 = true then (some false) else ((spec_OneFits.f k1 a0_0 a0_1 a0_2 a0_3 a0_4 a0_5 a0_6 a0_7 l0_8 l0_9 (bq7) ((rd_T29 l1 x9_1).f1) ((rd_T29 l1 x9_1).f2) ((rd_T29 l1 x9_1).f3)).bind fun t136 => (if t136 = true then (spec_PlainAll.l0 k1 l1 l1 (l1.length : Int) (wrap64 (x9_1 + 1)) a0_0 a0_1 a0_2 a0_3 a0_4 a0_5 a0_6 a0_7 l0_8 l0_9) else (some false)))) = some r := by rw [← hbq7] at H; exact H
      have Nbq7 := Aside0.mk hbq7
      clear hbq7
      by_cases c8 : bq7 = true
      ·subst c8
       have H1 : (some false) = some r := by rw [if_pos rfl] at H; exact H
       clear H
       have H := H1
       clear H1
       obtain rfl := Option.some.inj H
       have p134 : 0 ≤ (x9_1 : Int) := of_decide_eq_true (by first | (with_reducible assumption) | assumption)
       have q134 : x9_1 < (l1.length : Int) := of_decide_eq_true (by first | (with_reducible assumption) | assumption)
       obtain ⟨ad134, A134_3, c134_3, e134, hx134_0, hx134_1, hx134_2, hx134_3, hl134_3, hi134_3⟩ := at_T29 HR1.out x9_1 p134 q134
       (try rw [← Nbq7.out] at hx134_0)
       cases e134
       replace hx134_0 := (HB.out.cell (World.block_lt_of_cell? w _ hx134_0)).trans hx134_0
       replace hx134_1 := (HB.out.cell (World.block_lt_of_cell? w _ hx134_1)).trans hx134_1
       replace hx134_2 := (HB.out.cell (World.block_lt_of_cell? w _ hx134_2)).trans hx134_2
       replace hx134_3 := (HB.out.cell (World.block_lt_of_cell? w _ hx134_3)).trans hx134_3
       have HR134_3 := Aside0.mk hi134_3
       have HC134_3 := Aside0.mk hl134_3
       clear hi134_3 hl134_3
       replace p134 := eq_true p134
       replace q134 := eq_true q134
       go_wp2_with (first | ((with_reducible refine gate_dst (N := 6) rfl ?_); refine box_event ?hg (N := 6) ?hd (cs := #[.bool false, .int .u64 0, .string (⟨#[]⟩ : ByteArray), .slice none 0 0]) (t := 29) ?hr ?_; (case hd => rfl); (case hg => rfl); (case hr => first | (go_simp; done) | (go_simp; rfl)); intro gb135 hg w9 hbox hb; have n0_ := Aside0.mk (blk_below (g := gb133) (o := .cells #[.int .i64 a0_0, .int .i64 a0_1, .bool a0_2, .int .i64 a0_3, .int .i64 a0_4, .int .i64 a0_5, .string a0_6, .bool a0_7, .slice A0_8 l0_8.length c0_8, .slice A0_9 l0_9.length c0_9] 35 (0, 0)) (by (with_reducible repeat (first | refine blk_drewN ?_ _ | refine blk_drew ?_ | refine blk_alloc ?_ _)); exact BK133.out) hb); have n1_ := Aside0.mk (below_step (by repeat (first | (with_reducible first | exact HB.out | apply below_alloc | apply pw_below_drewN | apply below_drew1 | refine below_set ?_ GE133.out) | exact HB.out)) hb); have n2_ := Aside0.mk (hbox); have n3_ := Aside0.mk ((by rw [hg]; exact (below_size (by repeat (first | (with_reducible first | exact HB.out | apply below_alloc | apply pw_below_drewN | apply below_drew1 | refine below_set ?_ GE133.out) | exact HB.out))) : w.heap.size ≤ gb135)); have n4_ := Aside0.mk ((by rw [hg]; exact (below_size (by repeat (first | (with_reducible first | exact HB.out | apply below_alloc | apply pw_below_drewN | apply below_drew1 | refine below_set ?_ GE133.out) | exact HB.out))) : w.heap.size ≤ gb135)); have n5_ := Aside0.mk ((by rw [hg]; exact Nat.ne_of_lt (blk_lt (g := gb133) (o := .cells #[.int .i64 a0_0, .int .i64 a0_1, .bool a0_2, .int .i64 a0_3, .int .i64 a0_4, .int .i64 a0_5, .string a0_6, .bool a0_7, .slice A0_8 l0_8.length c0_8, .slice A0_9 l0_9.length c0_9] 35 (0, 0)) (by (with_reducible repeat (first | refine blk_drewN ?_ _ | refine blk_drew ?_ | refine blk_alloc ?_ _)); exact BK133.out)) : gb133 ≠ gb135)); have n6_ := Aside0.mk ((by rw [hg]; exact Nat.ne_of_gt (blk_lt (g := gb133) (o := .cells #[.int .i64 a0_0, .int .i64 a0_1, .bool a0_2, .int .i64 a0_3, .int .i64 a0_4, .int .i64 a0_5, .string a0_6, .bool a0_7, .slice A0_8 l0_8.length c0_8, .slice A0_9 l0_9.length c0_9] 35 (0, 0)) (by (with_reducible repeat (first | refine blk_drewN ?_ _ | refine blk_drew ?_ | refine blk_alloc ?_ _)); exact BK133.out)) : gb135 ≠ gb133)); clear BK133; clear HB; have BK133 := n0_; have HB := n1_; have BK135 := n2_; have GW135 := n3_; have GE135 := n4_; have NB133_135 := n5_; have NB135_133 := n6_; clear n0_ n1_ n2_ n3_ n4_ n5_ n6_; clear hb hbox hg; have hnb10 := NB135_133.out; have hnc10 := NB133_135.out; have hcz11_0 : w9.cell? ⟨gb135, 0, none⟩ = some (.bool false) := (blk_cell BK135.out 0).trans rfl; have hcz11_1 : w9.cell? ⟨gb135, 1, none⟩ = some (.int .u64 0) := (blk_cell BK135.out 1).trans rfl; have hcz11_2 : w9.cell? ⟨gb135, 2, none⟩ = some (.string (⟨#[]⟩ : ByteArray)) := (blk_cell BK135.out 2).trans rfl; have hcz11_3 : w9.cell? ⟨gb135, 3, none⟩ = some (.slice none 0 0) := (blk_cell BK135.out 3).trans rfl; have hfz11_0 := blk_frozen BK135.out 0; have hfz11_1 := blk_frozen BK135.out 1; have hfz11_2 := blk_frozen BK135.out 2; have hfz11_3 := blk_frozen BK135.out 3))
       go_ret
       exact ⟨by first | rfl | (simp [errW_none, errW_some] <;> rfl) | (simp [*, errW_none, errW_some] <;> rfl), by repeat (first | (with_reducible first | exact HB.out | apply below_alloc | apply pw_below_drewN | apply below_drew1 | refine below_set ?_ GE133.out | refine below_set ?_ GE135.out) | exact HB.out)⟩
      ·replace c8 := Bool.eq_false_iff.mpr c8
       subst c8
       have H1 : ((spec_OneFits.f k1 a0_0 a0_1 a0_2 a0_3 a0_4 a0_5 a0_6 a0_7 l0_8 l0_9 (false) ((rd_T29 l1 x9_1).f1) ((rd_T29 l1 x9_1).f2) ((rd_T29 l1 x9_1).f3)).bind fun t136 => (if t136 = true then (spec_PlainAll.l0 k1 l1 l1 (l1.length : Int) (wrap64 (x9_1 + 1)) a0_0 a0_1 a0_2 a0_3 a0_4 a0_5 a0_6 a0_7 l0_8 l0_9) else (some false))) = some r := by rw [if_neg (show ¬ (false = true) by decide)] at H; exact H
       clear H
       have H := H1
       clear H1
       replace H := Option.bind_eq_some_iff.mp H
       obtain ⟨t136, A120, H⟩ := H
       replace H : (if t136 = true then (spec_PlainAll.l0 k1 l1 l1 (l1.length : Int) (wrap64 (x9_1 + 1)) a0_0 a0_1 a0_2 a0_3 a0_4 a0_5 a0_6 a0_7 l0_8 l0_9) else (some false)) = some r := H
       have A12 := Aside0.mk A120
       clear A120
       by_cases c13 : t136 = true
       ·subst c13
        have H1 : (spec_PlainAll.l0 k1 l1 l1 (l1.length : Int) (wrap64 (x9_1 + 1)) a0_0 a0_1 a0_2 a0_3 a0_4 a0_5 a0_6 a0_7 l0_8 l0_9) = some r := by rw [if_pos rfl] at H; exact H
        clear H
        have H := H1
        clear H1
        have H' := Aside0.mk H
        clear H
        have p134 : 0 ≤ (x9_1 : Int) := of_decide_eq_true (by first | (with_reducible assumption) | assumption)
        have q134 : x9_1 < (l1.length : Int) := of_decide_eq_true (by first | (with_reducible assumption) | assumption)
        obtain ⟨ad134, A134_3, c134_3, e134, hx134_0, hx134_1, hx134_2, hx134_3, hl134_3, hi134_3⟩ := at_T29 HR1.out x9_1 p134 q134
        (try rw [← Nbq7.out] at hx134_0)
        cases e134
        replace hx134_0 := (HB.out.cell (World.block_lt_of_cell? w _ hx134_0)).trans hx134_0
        replace hx134_1 := (HB.out.cell (World.block_lt_of_cell? w _ hx134_1)).trans hx134_1
        replace hx134_2 := (HB.out.cell (World.block_lt_of_cell? w _ hx134_2)).trans hx134_2
        replace hx134_3 := (HB.out.cell (World.block_lt_of_cell? w _ hx134_3)).trans hx134_3
        have HR134_3 := Aside0.mk hi134_3
        have HC134_3 := Aside0.mk hl134_3
        clear hi134_3 hl134_3
        replace p134 := eq_true p134
        replace q134 := eq_true q134
        go_wp2_with (first | ((with_reducible refine gate_dst (N := 6) rfl ?_); refine box_event ?hg (N := 6) ?hd (cs := #[.bool false, .int .u64 0, .string (⟨#[]⟩ : ByteArray), .slice none 0 0]) (t := 29) ?hr ?_; (case hd => rfl); (case hg => rfl); (case hr => first | (go_simp; done) | (go_simp; rfl)); intro gb135 hg w14 hbox hb; have n0_ := Aside0.mk (blk_below (g := gb133) (o := .cells #[.int .i64 a0_0, .int .i64 a0_1, .bool a0_2, .int .i64 a0_3, .int .i64 a0_4, .int .i64 a0_5, .string a0_6, .bool a0_7, .slice A0_8 l0_8.length c0_8, .slice A0_9 l0_9.length c0_9] 35 (0, 0)) (by (with_reducible repeat (first | refine blk_drewN ?_ _ | refine blk_drew ?_ | refine blk_alloc ?_ _)); exact BK133.out) hb); have n1_ := Aside0.mk (below_step (by repeat (first | (with_reducible first | exact HB.out | apply below_alloc | apply pw_below_drewN | apply below_drew1 | refine below_set ?_ GE133.out) | exact HB.out)) hb); have n2_ := Aside0.mk (hbox); have n3_ := Aside0.mk ((by rw [hg]; exact (below_size (by repeat (first | (with_reducible first | exact HB.out | apply below_alloc | apply pw_below_drewN | apply below_drew1 | refine below_set ?_ GE133.out) | exact HB.out))) : w.heap.size ≤ gb135)); have n4_ := Aside0.mk ((by rw [hg]; exact (below_size (by repeat (first | (with_reducible first | exact HB.out | apply below_alloc | apply pw_below_drewN | apply below_drew1 | refine below_set ?_ GE133.out) | exact HB.out))) : w.heap.size ≤ gb135)); have n5_ := Aside0.mk ((by rw [hg]; exact Nat.ne_of_lt (blk_lt (g := gb133) (o := .cells #[.int .i64 a0_0, .int .i64 a0_1, .bool a0_2, .int .i64 a0_3, .int .i64 a0_4, .int .i64 a0_5, .string a0_6, .bool a0_7, .slice A0_8 l0_8.length c0_8, .slice A0_9 l0_9.length c0_9] 35 (0, 0)) (by (with_reducible repeat (first | refine blk_drewN ?_ _ | refine blk_drew ?_ | refine blk_alloc ?_ _)); exact BK133.out)) : gb133 ≠ gb135)); have n6_ := Aside0.mk ((by rw [hg]; exact Nat.ne_of_gt (blk_lt (g := gb133) (o := .cells #[.int .i64 a0_0, .int .i64 a0_1, .bool a0_2, .int .i64 a0_3, .int .i64 a0_4, .int .i64 a0_5, .string a0_6, .bool a0_7, .slice A0_8 l0_8.length c0_8, .slice A0_9 l0_9.length c0_9] 35 (0, 0)) (by (with_reducible repeat (first | refine blk_drewN ?_ _ | refine blk_drew ?_ | refine blk_alloc ?_ _)); exact BK133.out)) : gb135 ≠ gb133)); clear BK133; clear HB; have BK133 := n0_; have HB := n1_; have BK135 := n2_; have GW135 := n3_; have GE135 := n4_; have NB133_135 := n5_; have NB135_133 := n6_; clear n0_ n1_ n2_ n3_ n4_ n5_ n6_; clear hb hbox hg; have hnb15 := NB135_133.out; have hnc15 := NB133_135.out; have hcz16_0 : w14.cell? ⟨gb135, 0, none⟩ = some (.bool false) := (blk_cell BK135.out 0).trans rfl; have hcz16_1 : w14.cell? ⟨gb135, 1, none⟩ = some (.int .u64 0) := (blk_cell BK135.out 1).trans rfl; have hcz16_2 : w14.cell? ⟨gb135, 2, none⟩ = some (.string (⟨#[]⟩ : ByteArray)) := (blk_cell BK135.out 2).trans rfl; have hcz16_3 : w14.cell? ⟨gb135, 3, none⟩ = some (.slice none 0 0) := (blk_cell BK135.out 3).trans rfl; have hfz16_0 := blk_frozen BK135.out 0; have hfz16_1 := blk_frozen BK135.out 1; have hfz16_2 := blk_frozen BK135.out 2; have hfz16_3 := blk_frozen BK135.out 3; have hcz17_0 : w14.cell? ⟨gb133, 0, none⟩ = some (.int .i64 a0_0) := (blk_cell BK133.out 0).trans rfl; have hcz17_1 : w14.cell? ⟨gb133, 1, none⟩ = some (.int .i64 a0_1) := (blk_cell BK133.out 1).trans rfl; have hcz17_2 : w14.cell? ⟨gb133, 2, none⟩ = some (.bool a0_2) := (blk_cell BK133.out 2).trans rfl; have hcz17_3 : w14.cell? ⟨gb133, 3, none⟩ = some (.int .i64 a0_3) := (blk_cell BK133.out 3).trans rfl; have hcz17_4 : w14.cell? ⟨gb133, 4, none⟩ = some (.int .i64 a0_4) := (blk_cell BK133.out 4).trans rfl; have hcz17_5 : w14.cell? ⟨gb133, 5, none⟩ = some (.int .i64 a0_5) := (blk_cell BK133.out 5).trans rfl; have hcz17_6 : w14.cell? ⟨gb133, 6, none⟩ = some (.string a0_6) := (blk_cell BK133.out 6).trans rfl; have hcz17_7 : w14.cell? ⟨gb133, 7, none⟩ = some (.bool a0_7) := (blk_cell BK133.out 7).trans rfl; have hcz17_8 : w14.cell? ⟨gb133, 8, none⟩ = some (.slice A0_8 l0_8.length c0_8) := (blk_cell BK133.out 8).trans rfl; have hcz17_9 : w14.cell? ⟨gb133, 9, none⟩ = some (.slice A0_9 l0_9.length c0_9) := (blk_cell BK133.out 9).trans rfl; have hfz17_0 := blk_frozen BK133.out 0; have hfz17_1 := blk_frozen BK133.out 1; have hfz17_2 := blk_frozen BK133.out 2; have hfz17_3 := blk_frozen BK133.out 3; have hfz17_4 := blk_frozen BK133.out 4; have hfz17_5 := blk_frozen BK133.out 5; have hfz17_6 := blk_frozen BK133.out 6; have hfz17_7 := blk_frozen BK133.out 7; have hfz17_8 := blk_frozen BK133.out 8; have hfz17_9 := blk_frozen BK133.out 9) | (go_at_call 43; (with_reducible refine (spec_OneFits.calls k1 a0_0 a0_1 a0_2 a0_3 a0_4 a0_5 a0_6 a0_7 _ _ l0_8 _ _ l0_9 false ((rd_T29 l1 x9_1).f1) ((rd_T29 l1 x9_1).f2) _ _ ((rd_T29 l1 x9_1).f3) true _ ?side1 ?side2 ?side3 ?side4 ?side5 ?side6 A12.out).mono ?_); (case side1 => exact Kd.C_below HR0_8.out (by repeat (first | (with_reducible first | exact HB.out | apply below_alloc | apply pw_below_drewN | apply below_drew1 | refine below_set ?_ GE133.out | refine below_set ?_ GE135.out) | exact HB.out))); (case side2 => exact HC0_8.out); (case side3 => exact Kd.C_below HR0_9.out (by repeat (first | (with_reducible first | exact HB.out | apply below_alloc | apply pw_below_drewN | apply below_drew1 | refine below_set ?_ GE133.out | refine below_set ?_ GE135.out) | exact HB.out))); (case side4 => exact HC0_9.out); (case side5 => exact Kd.C_below HR134_3.out (by repeat (first | (with_reducible first | exact HB.out | apply below_alloc | apply pw_below_drewN | apply below_drew1 | refine below_set ?_ GE133.out | refine below_set ?_ GE135.out) | exact HB.out))); (case side6 => exact HC134_3.out); rintro e w18 ⟨rfl, hb⟩; have n0_ := Aside0.mk (blk_below (g := gb133) (o := .cells #[.int .i64 a0_0, .int .i64 a0_1, .bool a0_2, .int .i64 a0_3, .int .i64 a0_4, .int .i64 a0_5, .string a0_6, .bool a0_7, .slice A0_8 l0_8.length c0_8, .slice A0_9 l0_9.length c0_9] 35 (0, 0)) (by (with_reducible repeat (first | refine blk_drewN ?_ _ | refine blk_drew ?_ | refine blk_alloc ?_ _)); refine blk_far ?_ NB133_135.out _; (with_reducible repeat (first | refine blk_drewN ?_ _ | refine blk_drew ?_ | refine blk_alloc ?_ _)); refine blk_far ?_ NB133_135.out _; (with_reducible repeat (first | refine blk_drewN ?_ _ | refine blk_drew ?_ | refine blk_alloc ?_ _)); refine blk_far ?_ NB133_135.out _; (with_reducible repeat (first | refine blk_drewN ?_ _ | refine blk_drew ?_ | refine blk_alloc ?_ _)); refine blk_far ?_ NB133_135.out _; (with_reducible repeat (first | refine blk_drewN ?_ _ | refine blk_drew ?_ | refine blk_alloc ?_ _)); exact BK133.out) hb); have n1_ := Aside0.mk (blk_below (g := gb135) (o := .cells #[.bool false, .int .u64 ((rd_T29 l1 x9_1).f1), .string ((rd_T29 l1 x9_1).f2), .slice A134_3 ((rd_T29 l1 x9_1).f3).length c134_3] 29 (0, 0)) (by (with_reducible repeat (first | refine blk_drewN ?_ _ | refine blk_drew ?_ | refine blk_alloc ?_ _)); refine blk_put (cs := #[.bool false, .int .u64 ((rd_T29 l1 x9_1).f1), .string ((rd_T29 l1 x9_1).f2), .slice none 0 0]) ?_ 3 _ rfl; (with_reducible repeat (first | refine blk_drewN ?_ _ | refine blk_drew ?_ | refine blk_alloc ?_ _)); refine blk_put (cs := #[.bool false, .int .u64 ((rd_T29 l1 x9_1).f1), .string (⟨#[]⟩ : ByteArray), .slice none 0 0]) ?_ 2 _ rfl; (with_reducible repeat (first | refine blk_drewN ?_ _ | refine blk_drew ?_ | refine blk_alloc ?_ _)); refine blk_put (cs := #[.bool false, .int .u64 0, .string (⟨#[]⟩ : ByteArray), .slice none 0 0]) ?_ 1 _ rfl; (with_reducible repeat (first | refine blk_drewN ?_ _ | refine blk_drew ?_ | refine blk_alloc ?_ _)); refine blk_put (cs := #[.bool false, .int .u64 0, .string (⟨#[]⟩ : ByteArray), .slice none 0 0]) ?_ 0 _ rfl; (with_reducible repeat (first | refine blk_drewN ?_ _ | refine blk_drew ?_ | refine blk_alloc ?_ _)); exact BK135.out) hb); have n2_ := Aside0.mk (below_step (by repeat (first | (with_reducible first | exact HB.out | apply below_alloc | apply pw_below_drewN | apply below_drew1 | refine below_set ?_ GE133.out | refine below_set ?_ GE135.out) | exact HB.out)) hb); clear BK133; clear BK135; clear HB; have BK133 := n0_; have BK135 := n1_; have HB := n2_; clear n0_ n1_ n2_; (try clear hb); (try clear hb2); (try clear hk); (try clear hi)))
        go_roundg k1
        case measure => have := HK1.out; omega
        case rel => exact ⟨(wrap64 (x9_1 + 1)), (by first | rfl | (simp; done) | (simp [*]; done)), H', ⟨by have := HK1.out; omega⟩, ⟨by (with_reducible repeat (first | refine blk_drewN ?_ _ | refine blk_drew ?_ | refine blk_alloc ?_ _)); exact BK133.out⟩, ⟨by repeat (first | (with_reducible first | exact HB.out | apply below_alloc | apply pw_below_drewN | apply below_drew1 | refine below_set ?_ GE133.out | refine below_set ?_ GE135.out) | exact HB.out)⟩⟩
       ·replace c13 := Bool.eq_false_iff.mpr c13
        subst c13
        have H1 : (some false) = some r := by rw [if_neg (show ¬ (false = true) by decide)] at H; exact H
        clear H
        have H := H1
        clear H1
        obtain rfl := Option.some.inj H
        have p134 : 0 ≤ (x9_1 : Int) := of_decide_eq_true (by first | (with_reducible assumption) | assumption)
        have q134 : x9_1 < (l1.length : Int) := of_decide_eq_true (by first | (with_reducible assumption) | assumption)
        obtain ⟨ad134, A134_3, c134_3, e134, hx134_0, hx134_1, hx134_2, hx134_3, hl134_3, hi134_3⟩ := at_T29 HR1.out x9_1 p134 q134
        (try rw [← Nbq7.out] at hx134_0)
        cases e134
        replace hx134_0 := (HB.out.cell (World.block_lt_of_cell? w _ hx134_0)).trans hx134_0
        replace hx134_1 := (HB.out.cell (World.block_lt_of_cell? w _ hx134_1)).trans hx134_1
        replace hx134_2 := (HB.out.cell (World.block_lt_of_cell? w _ hx134_2)).trans hx134_2
        replace hx134_3 := (HB.out.cell (World.block_lt_of_cell? w _ hx134_3)).trans hx134_3
        have HR134_3 := Aside0.mk hi134_3
        have HC134_3 := Aside0.mk hl134_3
        clear hi134_3 hl134_3
        replace p134 := eq_true p134
        replace q134 := eq_true q134
        go_wp2_with (first | ((with_reducible refine gate_dst (N := 6) rfl ?_); refine box_event ?hg (N := 6) ?hd (cs := #[.bool false, .int .u64 0, .string (⟨#[]⟩ : ByteArray), .slice none 0 0]) (t := 29) ?hr ?_; (case hd => rfl); (case hg => rfl); (case hr => first | (go_simp; done) | (go_simp; rfl)); intro gb135 hg w19 hbox hb; have n0_ := Aside0.mk (blk_below (g := gb133) (o := .cells #[.int .i64 a0_0, .int .i64 a0_1, .bool a0_2, .int .i64 a0_3, .int .i64 a0_4, .int .i64 a0_5, .string a0_6, .bool a0_7, .slice A0_8 l0_8.length c0_8, .slice A0_9 l0_9.length c0_9] 35 (0, 0)) (by (with_reducible repeat (first | refine blk_drewN ?_ _ | refine blk_drew ?_ | refine blk_alloc ?_ _)); exact BK133.out) hb); have n1_ := Aside0.mk (below_step (by repeat (first | (with_reducible first | exact HB.out | apply below_alloc | apply pw_below_drewN | apply below_drew1 | refine below_set ?_ GE133.out) | exact HB.out)) hb); have n2_ := Aside0.mk (hbox); have n3_ := Aside0.mk ((by rw [hg]; exact (below_size (by repeat (first | (with_reducible first | exact HB.out | apply below_alloc | apply pw_below_drewN | apply below_drew1 | refine below_set ?_ GE133.out) | exact HB.out))) : w.heap.size ≤ gb135)); have n4_ := Aside0.mk ((by rw [hg]; exact (below_size (by repeat (first | (with_reducible first | exact HB.out | apply below_alloc | apply pw_below_drewN | apply below_drew1 | refine below_set ?_ GE133.out) | exact HB.out))) : w.heap.size ≤ gb135)); have n5_ := Aside0.mk ((by rw [hg]; exact Nat.ne_of_lt (blk_lt (g := gb133) (o := .cells #[.int .i64 a0_0, .int .i64 a0_1, .bool a0_2, .int .i64 a0_3, .int .i64 a0_4, .int .i64 a0_5, .string a0_6, .bool a0_7, .slice A0_8 l0_8.length c0_8, .slice A0_9 l0_9.length c0_9] 35 (0, 0)) (by (with_reducible repeat (first | refine blk_drewN ?_ _ | refine blk_drew ?_ | refine blk_alloc ?_ _)); exact BK133.out)) : gb133 ≠ gb135)); have n6_ := Aside0.mk ((by rw [hg]; exact Nat.ne_of_gt (blk_lt (g := gb133) (o := .cells #[.int .i64 a0_0, .int .i64 a0_1, .bool a0_2, .int .i64 a0_3, .int .i64 a0_4, .int .i64 a0_5, .string a0_6, .bool a0_7, .slice A0_8 l0_8.length c0_8, .slice A0_9 l0_9.length c0_9] 35 (0, 0)) (by (with_reducible repeat (first | refine blk_drewN ?_ _ | refine blk_drew ?_ | refine blk_alloc ?_ _)); exact BK133.out)) : gb135 ≠ gb133)); clear BK133; clear HB; have BK133 := n0_; have HB := n1_; have BK135 := n2_; have GW135 := n3_; have GE135 := n4_; have NB133_135 := n5_; have NB135_133 := n6_; clear n0_ n1_ n2_ n3_ n4_ n5_ n6_; clear hb hbox hg; have hnb20 := NB135_133.out; have hnc20 := NB133_135.out; have hcz21_0 : w19.cell? ⟨gb135, 0, none⟩ = some (.bool false) := (blk_cell BK135.out 0).trans rfl; have hcz21_1 : w19.cell? ⟨gb135, 1, none⟩ = some (.int .u64 0) := (blk_cell BK135.out 1).trans rfl; have hcz21_2 : w19.cell? ⟨gb135, 2, none⟩ = some (.string (⟨#[]⟩ : ByteArray)) := (blk_cell BK135.out 2).trans rfl; have hcz21_3 : w19.cell? ⟨gb135, 3, none⟩ = some (.slice none 0 0) := (blk_cell BK135.out 3).trans rfl; have hfz21_0 := blk_frozen BK135.out 0; have hfz21_1 := blk_frozen BK135.out 1; have hfz21_2 := blk_frozen BK135.out 2; have hfz21_3 := blk_frozen BK135.out 3; have hcz22_0 : w19.cell? ⟨gb133, 0, none⟩ = some (.int .i64 a0_0) := (blk_cell BK133.out 0).trans rfl; have hcz22_1 : w19.cell? ⟨gb133, 1, none⟩ = some (.int .i64 a0_1) := (blk_cell BK133.out 1).trans rfl; have hcz22_2 : w19.cell? ⟨gb133, 2, none⟩ = some (.bool a0_2) := (blk_cell BK133.out 2).trans rfl; have hcz22_3 : w19.cell? ⟨gb133, 3, none⟩ = some (.int .i64 a0_3) := (blk_cell BK133.out 3).trans rfl; have hcz22_4 : w19.cell? ⟨gb133, 4, none⟩ = some (.int .i64 a0_4) := (blk_cell BK133.out 4).trans rfl; have hcz22_5 : w19.cell? ⟨gb133, 5, none⟩ = some (.int .i64 a0_5) := (blk_cell BK133.out 5).trans rfl; have hcz22_6 : w19.cell? ⟨gb133, 6, none⟩ = some (.string a0_6) := (blk_cell BK133.out 6).trans rfl; have hcz22_7 : w19.cell? ⟨gb133, 7, none⟩ = some (.bool a0_7) := (blk_cell BK133.out 7).trans rfl; have hcz22_8 : w19.cell? ⟨gb133, 8, none⟩ = some (.slice A0_8 l0_8.length c0_8) := (blk_cell BK133.out 8).trans rfl; have hcz22_9 : w19.cell? ⟨gb133, 9, none⟩ = some (.slice A0_9 l0_9.length c0_9) := (blk_cell BK133.out 9).trans rfl; have hfz22_0 := blk_frozen BK133.out 0; have hfz22_1 := blk_frozen BK133.out 1; have hfz22_2 := blk_frozen BK133.out 2; have hfz22_3 := blk_frozen BK133.out 3; have hfz22_4 := blk_frozen BK133.out 4; have hfz22_5 := blk_frozen BK133.out 5; have hfz22_6 := blk_frozen BK133.out 6; have hfz22_7 := blk_frozen BK133.out 7; have hfz22_8 := blk_frozen BK133.out 8; have hfz22_9 := blk_frozen BK133.out 9) | (go_at_call 43; (with_reducible refine (spec_OneFits.calls k1 a0_0 a0_1 a0_2 a0_3 a0_4 a0_5 a0_6 a0_7 _ _ l0_8 _ _ l0_9 false ((rd_T29 l1 x9_1).f1) ((rd_T29 l1 x9_1).f2) _ _ ((rd_T29 l1 x9_1).f3) false _ ?side1 ?side2 ?side3 ?side4 ?side5 ?side6 A12.out).mono ?_); (case side1 => exact Kd.C_below HR0_8.out (by repeat (first | (with_reducible first | exact HB.out | apply below_alloc | apply pw_below_drewN | apply below_drew1 | refine below_set ?_ GE133.out | refine below_set ?_ GE135.out) | exact HB.out))); (case side2 => exact HC0_8.out); (case side3 => exact Kd.C_below HR0_9.out (by repeat (first | (with_reducible first | exact HB.out | apply below_alloc | apply pw_below_drewN | apply below_drew1 | refine below_set ?_ GE133.out | refine below_set ?_ GE135.out) | exact HB.out))); (case side4 => exact HC0_9.out); (case side5 => exact Kd.C_below HR134_3.out (by repeat (first | (with_reducible first | exact HB.out | apply below_alloc | apply pw_below_drewN | apply below_drew1 | refine below_set ?_ GE133.out | refine below_set ?_ GE135.out) | exact HB.out))); (case side6 => exact HC134_3.out); rintro e w23 ⟨rfl, hb⟩; have n0_ := Aside0.mk (blk_below (g := gb133) (o := .cells #[.int .i64 a0_0, .int .i64 a0_1, .bool a0_2, .int .i64 a0_3, .int .i64 a0_4, .int .i64 a0_5, .string a0_6, .bool a0_7, .slice A0_8 l0_8.length c0_8, .slice A0_9 l0_9.length c0_9] 35 (0, 0)) (by (with_reducible repeat (first | refine blk_drewN ?_ _ | refine blk_drew ?_ | refine blk_alloc ?_ _)); refine blk_far ?_ NB133_135.out _; (with_reducible repeat (first | refine blk_drewN ?_ _ | refine blk_drew ?_ | refine blk_alloc ?_ _)); refine blk_far ?_ NB133_135.out _; (with_reducible repeat (first | refine blk_drewN ?_ _ | refine blk_drew ?_ | refine blk_alloc ?_ _)); refine blk_far ?_ NB133_135.out _; (with_reducible repeat (first | refine blk_drewN ?_ _ | refine blk_drew ?_ | refine blk_alloc ?_ _)); refine blk_far ?_ NB133_135.out _; (with_reducible repeat (first | refine blk_drewN ?_ _ | refine blk_drew ?_ | refine blk_alloc ?_ _)); exact BK133.out) hb); have n1_ := Aside0.mk (blk_below (g := gb135) (o := .cells #[.bool false, .int .u64 ((rd_T29 l1 x9_1).f1), .string ((rd_T29 l1 x9_1).f2), .slice A134_3 ((rd_T29 l1 x9_1).f3).length c134_3] 29 (0, 0)) (by (with_reducible repeat (first | refine blk_drewN ?_ _ | refine blk_drew ?_ | refine blk_alloc ?_ _)); refine blk_put (cs := #[.bool false, .int .u64 ((rd_T29 l1 x9_1).f1), .string ((rd_T29 l1 x9_1).f2), .slice none 0 0]) ?_ 3 _ rfl; (with_reducible repeat (first | refine blk_drewN ?_ _ | refine blk_drew ?_ | refine blk_alloc ?_ _)); refine blk_put (cs := #[.bool false, .int .u64 ((rd_T29 l1 x9_1).f1), .string (⟨#[]⟩ : ByteArray), .slice none 0 0]) ?_ 2 _ rfl; (with_reducible repeat (first | refine blk_drewN ?_ _ | refine blk_drew ?_ | refine blk_alloc ?_ _)); refine blk_put (cs := #[.bool false, .int .u64 0, .string (⟨#[]⟩ : ByteArray), .slice none 0 0]) ?_ 1 _ rfl; (with_reducible repeat (first | refine blk_drewN ?_ _ | refine blk_drew ?_ | refine blk_alloc ?_ _)); refine blk_put (cs := #[.bool false, .int .u64 0, .string (⟨#[]⟩ : ByteArray), .slice none 0 0]) ?_ 0 _ rfl; (with_reducible repeat (first | refine blk_drewN ?_ _ | refine blk_drew ?_ | refine blk_alloc ?_ _)); exact BK135.out) hb); have n2_ := Aside0.mk (below_step (by repeat (first | (with_reducible first | exact HB.out | apply below_alloc | apply pw_below_drewN | apply below_drew1 | refine below_set ?_ GE133.out | refine below_set ?_ GE135.out) | exact HB.out)) hb); clear BK133; clear BK135; clear HB; have BK133 := n0_; have BK135 := n1_; have HB := n2_; clear n0_ n1_ n2_; (try clear hb); (try clear hb2); (try clear hk); (try clear hi)))
        go_ret
        exact ⟨by first | rfl | (simp [errW_none, errW_some] <;> rfl) | (simp [*, errW_none, errW_some] <;> rfl), by repeat (first | (with_reducible first | exact HB.out | apply below_alloc | apply pw_below_drewN | apply below_drew1 | refine below_set ?_ GE133.out | refine below_set ?_ GE135.out) | exact HB.out)⟩
     ·rw [if_neg c6] at H
      exact absurd H (by simp)
    ·rw [if_neg c5] at H
     exact absurd H (by simp)
   ·rw [if_neg c4] at H
    have c4b0 : decide (x9_1 < (l1.length : Int)) = false := decide_eq_false c4
    clear c4
    obtain rfl := Option.some.inj H
    go_wp2
    go_ret
    exact ⟨by first | rfl | (simp [errW_none, errW_some] <;> rfl) | (simp [*, errW_none, errW_some] <;> rfl), by repeat (first | (with_reducible first | exact HB.out | apply below_alloc | apply pw_below_drewN | apply below_drew1 | refine below_set ?_ GE133.out) | exact HB.out)⟩

/-! ### laws_allOf: function 5 -/
def laws_allOf.l0 : Nat → List (List (S29)) → List (S29) → List (List (S29)) → Int → Int → Int → Int → Bool → Int → Int → Int → ByteArray → Bool → List Int → List Int → Option ((List (S29)) × Bool)
 | 0, _, _, _, _, _, _, _, _, _, _, _, _, _, _, _ => none
 | k + 1, x1, x6, x9, x10, x11, x138000, x138001, x138002, x138003, x138004, x138005, x138006, x138007, x138008, x138009 => if x11 < x10 then (if 0 ≤ x11 then (if x11 < (x9.length : Int) then (if x6.length + (rd_L6 x9 x11).length < 2513169434916 then (laws_allOf.l0 k x1 (x6 ++ (rd_L6 x9 x11)) x9 x10 (wrap64 (x11 + 1)) x138000 x138001 x138002 x138003 x138004 x138005 x138006 x138007 x138008 x138009) else (none)) else (none)) else (none)) else (if (x1.length : Int) ≤ 20 then ((spec_PlainAll.f k x138000 x138001 x138002 x138003 x138004 x138005 x138006 x138007 x138008 x138009 x6).bind fun t142 => (some (x6, t142))) else (some (x6, false)))
def laws_allOf.f (k : Nat) (a0_0 : Int) (a0_1 : Int) (a0_2 : Bool) (a0_3 : Int) (a0_4 : Int) (a0_5 : Int) (a0_6 : ByteArray) (a0_7 : Bool) (l0_8 : List Int) (l0_9 : List Int) (l1 : List (List (S29))) : Option ((List (S29)) × Bool) := laws_allOf.l0 k l1 ([] : List (S29)) l1 (l1.length : Int) 0 a0_0 a0_1 a0_2 a0_3 a0_4 a0_5 a0_6 a0_7 l0_8 l0_9
theorem laws_allOf.mono_l : ∀ k, (∀ y0 y1 y2 y3 y4 y5 y6 y7 y8 y9 y10 y11 y12 y13 y14, LeO (laws_allOf.l0 k y0 y1 y2 y3 y4 y5 y6 y7 y8 y9 y10 y11 y12 y13 y14) (laws_allOf.l0 (k + 1) y0 y1 y2 y3 y4 y5 y6 y7 y8 y9 y10 y11 y12 y13 y14))
 | 0 => fun _ _ _ _ _ _ _ _ _ _ _ _ _ _ _ r h => by simp [laws_allOf.l0] at h
 | k + 1 => by
  have ih0 := laws_allOf.mono_l k
  ·intro y0 y1 y2 y3 y4 y5 y6 y7 y8 y9 y10 y11 y12 y13 y14
   unfold laws_allOf.l0
   repeat' first
   | (with_reducible exact ih0 _ _ _ _ _ _ _ _ _ _ _ _ _ _ _)
   | (with_reducible exact spec_PlainAll.mono _ _ _ _ _ _ _ _ _ _ _ _)
   | (with_reducible exact LeO.refl _)
   | (with_reducible exact LeO.none _)
   | (with_reducible refine LeO.ite ?_ ?_)
   | (with_reducible refine LeO.bind ?_ (fun _ => ?_))
   | exact ih0 _ _ _ _ _ _ _ _ _ _ _ _ _ _ _
   | exact spec_PlainAll.mono _ _ _ _ _ _ _ _ _ _ _ _
   | exact LeO.none _
   | refine LeO.ite ?_ ?_
   | refine LeO.bind ?_ (fun _ => ?_)
theorem laws_allOf.mono : ∀ a0 a1 a2 a3 a4 a5 a6 a7 a8 a9 a10 k, LeO (laws_allOf.f k a0 a1 a2 a3 a4 a5 a6 a7 a8 a9 a10) (laws_allOf.f (k + 1) a0 a1 a2 a3 a4 a5 a6 a7 a8 a9 a10) := by
 intro a0 a1 a2 a3 a4 a5 a6 a7 a8 a9 a10 k
 have ih0 := laws_allOf.mono_l k
 unfold laws_allOf.f
 repeat' first
   | (with_reducible exact ih0 _ _ _ _ _ _ _ _ _ _ _ _ _ _ _)
   | (with_reducible exact spec_PlainAll.mono _ _ _ _ _ _ _ _ _ _ _ _)
   | (with_reducible exact LeO.refl _)
   | (with_reducible exact LeO.none _)
   | (with_reducible refine LeO.ite ?_ ?_)
   | (with_reducible refine LeO.bind ?_ (fun _ => ?_))
   | exact ih0 _ _ _ _ _ _ _ _ _ _ _ _ _ _ _
   | exact spec_PlainAll.mono _ _ _ _ _ _ _ _ _ _ _ _
   | exact LeO.none _
   | refine LeO.ite ?_ ?_
   | refine LeO.bind ?_ (fun _ => ?_)
set_option maxHeartbeats 8000000 in
set_option maxRecDepth 100000 in
theorem laws_allOf.calls (k : Nat) (a0_0 : Int) (a0_1 : Int) (a0_2 : Bool) (a0_3 : Int) (a0_4 : Int) (a0_5 : Int) (a0_6 : ByteArray) (a0_7 : Bool) (A0_8 : Option Addr) (c0_8 : Nat) (l0_8 : List Int) (A0_9 : Option Addr) (c0_9 : Nat) (l0_9 : List Int) (P1_ : Nat → Prop) (A1 : Option Addr) (c1 : Nat) (l1 : List (List (S29))) (r1 : List (S29)) (r2 : Bool) (w : World) (hr0_8 : Kd.C (Kd.int .i64) w A0_8 l0_8.length l0_8) (hc0_8 : l0_8.length ≤ c0_8) (hr0_9 : Kd.C (Kd.int .i64) w A0_9 l0_9.length l0_9) (hc0_9 : l0_9.length ≤ c0_9) (hs1 : Kd.V (Kd.slice 29 k29) 27 w w.heap.size (fun k_ => P1_ k_) (.slice A1 l1.length c1) l1) (h : laws_allOf.f k a0_0 a0_1 a0_2 a0_3 a0_4 a0_5 a0_6 a0_7 l0_8 l0_9 l1 = some (r1, r2)) :
  Calls Tryz.prog 5 #[.agg #[.int .i64 a0_0, .int .i64 a0_1, .bool a0_2, .int .i64 a0_3, .int .i64 a0_4, .int .i64 a0_5, .string a0_6, .bool a0_7, .slice A0_8 l0_8.length c0_8, .slice A0_9 l0_9.length c0_9], .slice A1 l1.length c1] w fun e w' => ∃ v0_ : Value, e = .returned (.tuple #[v0_, .bool r2]) ∧ Kd.N k29 29 w' w.heap.size (fun k_ => (P1_ k_ ∨ w.heap.size ≤ k_)) v0_ r1 ∧ Below w.heap.size w w' := by
 have hu35 := Tryz.underlying35
 have HR0_8 := Aside0.mk hr0_8
 have HC0_8 := Aside0.mk hc0_8
 clear hr0_8 hc0_8
 have HR0_9 := Aside0.mk hr0_9
 have HC0_9 := Aside0.mk hc0_9
 clear hr0_9 hc0_9
 have HO1 := Aside0.mk (show Kd.V (Kd.slice 29 k29) 27 w w.heap.size (fun k_ => (P1_ k_ ∨ w.heap.size ≤ k_)) (.slice A1 l1.length c1) l1 from Kd.V_mono hs1 (fun k_ hk => .inl hk))
 have HB := Aside0.mk (Below.refl w.heap.size w)
 have H : (laws_allOf.l0 k l1 ([] : List (S29)) l1 (l1.length : Int) 0 a0_0 a0_1 a0_2 a0_3 a0_4 a0_5 a0_6 a0_7 l0_8 l0_9) = some (r1, r2) := h
 clear h
 have H' := Aside0.mk H
 clear H
 go_enter Tryz.func5, Tryz.ntmps5
 go_wp2_with (first | ((with_reducible refine gate_dst (N := 2) rfl ?_); refine box_event ?hg (N := 2) ?hd (cs := #[.int .i64 a0_0, .int .i64 a0_1, .bool a0_2, .int .i64 a0_3, .int .i64 a0_4, .int .i64 a0_5, .string a0_6, .bool a0_7, .slice A0_8 l0_8.length c0_8, .slice A0_9 l0_9.length c0_9]) (t := 35) ?hr ?_; (case hd => rfl); (case hg => rfl); (case hr => first | (go_simp; done) | (go_simp; rfl)); intro gb137 hg w3 hbox hb; have n0_ := Aside0.mk (Kd.V_below (Kd.V_elderB (by (with_reducible repeat (first | apply Kd.V_alloc | apply Kd.V_drewN | apply Kd.V_drew)); exact HO1.out) gb137 (Nat.le_of_eq hg.symm)) hb); have n1_ := Aside0.mk (below_step (by repeat (first | (with_reducible first | exact HB.out | apply below_alloc | apply pw_below_drewN | apply below_drew1) | exact HB.out)) hb); have n2_ := Aside0.mk (hbox); have n3_ := Aside0.mk ((by rw [hg]; exact (below_size (by repeat (first | (with_reducible first | exact HB.out | apply below_alloc | apply pw_below_drewN | apply below_drew1) | exact HB.out))) : w.heap.size ≤ gb137)); have n4_ := Aside0.mk ((by rw [hg]; exact (below_size (by repeat (first | (with_reducible first | exact HB.out | apply below_alloc | apply pw_below_drewN | apply below_drew1) | exact HB.out))) : w.heap.size ≤ gb137)); clear HO1; clear HB; have HO1 := n0_; have HB := n1_; have BK137 := n2_; have GW137 := n3_; have GE137 := n4_; clear n0_ n1_ n2_ n3_ n4_; clear hb hbox hg))
 go_loopg [6, 11] k (fun kq v6 v11 w' => ∃ (x6_1 : List (S29)) (x11_1 : Int), v11 = .int .i64 x11_1 ∧ Aside0 (laws_allOf.l0 kq l1 x6_1 l1 (l1.length : Int) x11_1 a0_0 a0_1 a0_2 a0_3 a0_4 a0_5 a0_6 a0_7 l0_8 l0_9 = some (r1, r2)) ∧ Aside0 (kq ≤ k) ∧ Aside0 (Kd.V (Kd.slice 29 k29) 27 w' w.heap.size (fun k_ => (P1_ k_ ∨ w.heap.size ≤ k_) ∧ some k_ ≠ (v6 : Value).ownBlock ∧ k_ ≠ gb137) (.slice A1 l1.length c1) l1) ∧ Aside0 (Kd.N k29 29 w' w.heap.size (fun k_ => (P1_ k_ ∨ w.heap.size ≤ k_) ∧ k_ ≠ gb137) v6 x6_1) ∧ Aside0 (Kd.V (Kd.slice 29 k29) 27 w' w.heap.size (fun k_ => (P1_ k_ ∨ w.heap.size ≤ k_) ∧ some k_ ≠ (v6 : Value).ownBlock ∧ k_ ≠ gb137) (.slice A1 l1.length c1) l1) ∧ Aside0 (w'.heap[gb137]? = some (.cells #[.int .i64 a0_0, .int .i64 a0_1, .bool a0_2, .int .i64 a0_3, .int .i64 a0_4, .int .i64 a0_5, .string a0_6, .bool a0_7, (.slice A0_8 l0_8.length c0_8), (.slice A0_9 l0_9.length c0_9)] 35 (0, 0))) ∧ Aside0 (Below w.heap.size w w'))
 case atStart => exact ⟨(([] : List (S29))), (0), (by first | rfl | (simp; done) | (simp [*]; done)), H', ⟨Nat.le_refl _⟩, ⟨by (with_reducible repeat (first | apply Kd.V_alloc | apply Kd.V_drewN | apply Kd.V_drew)); exact Kd.V_mono HO1.out (fun _ hk => ⟨hk.1, ⟨(by simp [Value.ownBlock]), hk.2⟩⟩)⟩, ⟨by first | exact Kd.R_nil _ _ _ _ _ | exact Kd.N_nil _ _ _ _ _ | exact Kd.V_nil _ _ _ _ _ | exact Kd.Q_nil _ _ _ _ _ | exact Kd.S_nil _ _ _ _ _⟩, ⟨by (with_reducible repeat (first | apply Kd.V_alloc | apply Kd.V_drewN | apply Kd.V_drew)); exact Kd.V_mono HO1.out (fun _ hk => ⟨hk.1, ⟨(by simp [Value.ownBlock]), hk.2⟩⟩)⟩, ⟨by (with_reducible repeat (first | refine blk_drewN ?_ _ | refine blk_drew ?_ | refine blk_alloc ?_ _)); exact BK137.out⟩, ⟨by repeat (first | (with_reducible first | exact HB.out | apply below_alloc | apply pw_below_drewN | apply below_drew1 | refine below_set ?_ GE137.out) | exact HB.out)⟩⟩
 case round =>
  clear H'
  try clear c1
  try clear p2
  obtain ⟨x6_1, x11_1, rfl, HA, HK1, HO_1, HO_6, HO_9, BK137, HB⟩ := hrel
  cases gk with
  | zero => exact absurd HA.out (by simp [laws_allOf.l0])
  | succ k1 =>
   have H := HA.out
   clear HA
   simp only [laws_allOf.l0] at H
   by_cases c4 : x11_1 < (l1.length : Int)
   ·rw [if_pos c4] at H
    have c4b0 : decide (x11_1 < (l1.length : Int)) = true := decide_eq_true c4
    clear c4
    by_cases c5 : 0 ≤ x11_1
    ·rw [if_pos c5] at H
     have c5b0 : decide (0 ≤ x11_1) = true := decide_eq_true c5
     clear c5
     by_cases c6 : x11_1 < (l1.length : Int)
     ·rw [if_pos c6] at H
      have c6b0 : decide (x11_1 < (l1.length : Int)) = true := decide_eq_true c6
      clear c6
      by_cases c7 : x6_1.length + (rd_L6 l1 x11_1).length < 2513169434916
      ·rw [if_pos c7] at H
       have LMc7 := Aside0.mk c7
       clear c7
       obtain ⟨y139, hy139⟩ : ∃ y_ : List (S29), y_ = (x6_1 ++ (rd_L6 l1 x11_1)) := ⟨_, rfl⟩
       replace H : (laws_allOf.l0 k1 l1 y139 l1 (l1.length : Int) (wrap64 (x11_1 + 1)) a0_0 a0_1 a0_2 a0_3 a0_4 a0_5 a0_6 a0_7 l0_8 l0_9) = some (r1, r2) := by first | (rw [hy139]; with_reducible exact H) | (have H2_ := (Option.bind_some _ _).symm.trans H; rw [hy139]; with_reducible exact H2_) | (have H2_ := (Option.bind_some _ _).symm.trans H; with_reducible exact H2_) | with_reducible exact H | (rw [hy139]; exact H) | exact H
       have Ny139 := Aside0.mk hy139
       clear hy139
       have H' := Aside0.mk H
       clear H
       have p138 : 0 ≤ (x11_1 : Int) := of_decide_eq_true (by first | (with_reducible assumption) | assumption)
       have q138 : x11_1 < (l1.length : Int) := of_decide_eq_true (by first | (with_reducible assumption) | assumption)
       obtain ⟨ad138, A138_0, c138_0, e138, hx138_0, hl138_0, hi138_0⟩ := at_L6 (Kd.V_reads' HO_9.out).2.2 x11_1 p138 q138
       cases e138
       obtain ⟨ce138, hce138, hMe138, hcc138⟩ := Kd.V_get HO_9.out [] x11_1 p138 (by first | exact q138 | exact of_decide_eq_true (by first | (with_reducible assumption) | assumption) | (have e_ := (Kd.V_reads' HO_9.out).1; omega))
       obtain ⟨ua138_0, uc138_0, rfl, ul138_0, ge138_0⟩ := Kd.FK_slice_open hMe138
       have hv138_0 := hcc138 0 _ rfl
       rw [Nat.add_zero, show ((Kd.slice 29 k29)).sz = 1 from rfl, Nat.mul_one] at hv138_0
       replace hv138_0 := Option.some.inj (hv138_0.symm.trans hx138_0)
       injection hv138_0 with hva_ hvn_ hvc_
       rw [hva_] at ge138_0
       rw [hvc_] at ul138_0
       have HL138_0 := Aside0.mk (show Kd.V k29 29 _ w.heap.size _ _ (rd_L6 l1 x11_1) from Kd.V_mk ul138_0 ge138_0)
       clear hva_ hvn_ hvc_ ge138_0 ul138_0 hcc138 hce138
       have HR138_0 := Aside0.mk hi138_0
       have HC138_0 := Aside0.mk hl138_0
       clear hi138_0 hl138_0
       replace p138 := eq_true p138
       replace q138 := eq_true q138
       go_wp2_with (first | ((with_reducible refine gate_builtin (b := .append) (xs := #[.tmp 15, .tmp 16]) rfl ?_); at_builtin; refine Kd.N_append_rows k29 (w0 := w) w.heap.size rfl (.tmp 15) (.tmp 16) 27 29 (.agg #[(.bool false), (.int .u64 0), (.string ⟨#[]⟩), (.slice none 0 0)]) 56 rfl Tryz.underlying27 info29 rfl (by decide) (by omega) u6 x6_1 (rd_L6 l1 x11_1) _ _ _ (fun k_ => (P1_ k_ ∨ w.heap.size ≤ k_) ∧ k_ ≠ gb137) (fun k_ => ((fun k_ => (P1_ k_ ∨ w.heap.size ≤ k_) ∧ k_ ≠ gb137)) k_ ∧ some k_ ≠ (u6 : Value).ownBlock) rfl rfl ?aO ?aR (fun _ hk => hk) ?aF ?aB ?aS ?aL ?_; (case aR => exact (by skip; exact Kd.V_F (Kd.V_mono (ok' := (fun k_ => ((fun k_ => (P1_ k_ ∨ w.heap.size ≤ k_) ∧ k_ ≠ gb137)) k_ ∧ some k_ ≠ (u6 : Value).ownBlock)) (HL138_0.out) (fun k_ hk => ⟨⟨hk.1, hk.2.2⟩, hk.2.1⟩)))); (case aB => exact (by repeat (first | (with_reducible first | exact HB.out | apply below_alloc | apply pw_below_drewN | apply below_drew1 | refine below_set ?_ GE137.out) | exact HB.out))); (case aF => exact (fun k_ hk => ⟨(.inr (Nat.le_trans (below_size (by repeat (first | (with_reducible first | exact HB.out | apply below_alloc | apply pw_below_drewN | apply below_drew1 | refine below_set ?_ GE137.out) | exact HB.out))) hk)), Kd.freshB (g := gb137) (o := .cells #[.int .i64 a0_0, .int .i64 a0_1, .bool a0_2, .int .i64 a0_3, .int .i64 a0_4, .int .i64 a0_5, .string a0_6, .bool a0_7, .slice A0_8 l0_8.length c0_8, .slice A0_9 l0_9.length c0_9] 35 (0, 0)) (by (with_reducible repeat (first | refine blk_drewN ?_ _ | refine blk_drew ?_ | refine blk_alloc ?_ _)); exact BK137.out) k_ hk⟩)); (case aO => exact (by (with_reducible repeat (first | apply Kd.N_alloc | apply Kd.N_drewN | apply Kd.N_drew)); exact HO_6.out)); (case aS => exact (below_size (by repeat (first | (with_reducible first | exact HB.out | apply below_alloc | apply pw_below_drewN | apply below_drew1 | refine below_set ?_ GE137.out) | exact HB.out)))); (case aL => have := LMc7.out; omega); intro v140 w8 ho hb hg hat; rw [← Ny139.out] at ho; have n0_ := Aside0.mk (Kd.V_afterv (ok := (fun k_ => (P1_ k_ ∨ w.heap.size ≤ k_) ∧ k_ ≠ gb137)) (by (with_reducible repeat (first | apply Kd.V_alloc | apply Kd.V_drewN | apply Kd.V_drew)); exact Kd.V_mono HO_1.out (fun _ hk => ⟨⟨hk.1, hk.2.2⟩, hk.2.1⟩)) hg hat); have n1_ := Aside0.mk (Kd.V_afterv (ok := (fun k_ => (P1_ k_ ∨ w.heap.size ≤ k_) ∧ k_ ≠ gb137)) (by (with_reducible repeat (first | apply Kd.V_alloc | apply Kd.V_drewN | apply Kd.V_drew)); exact Kd.V_mono HO_9.out (fun _ hk => ⟨⟨hk.1, hk.2.2⟩, hk.2.1⟩)) hg hat); have n2_ := Aside0.mk (blk_grown (g := gb137) (o := .cells #[.int .i64 a0_0, .int .i64 a0_1, .bool a0_2, .int .i64 a0_3, .int .i64 a0_4, .int .i64 a0_5, .string a0_6, .bool a0_7, .slice A0_8 l0_8.length c0_8, .slice A0_9 l0_9.length c0_9] 35 (0, 0)) (by (with_reducible repeat (first | refine blk_drewN ?_ _ | refine blk_drew ?_ | refine blk_alloc ?_ _)); exact BK137.out) hg (Kd.N_ne HO_6.out BK137.out (by decide))); have n3_ := Aside0.mk (Kd.V_afterv (ok := (fun k_ => (P1_ k_ ∨ w.heap.size ≤ k_) ∧ k_ ≠ gb137)) (by (with_reducible repeat (first | apply Kd.V_alloc | apply Kd.V_drewN | apply Kd.V_drew)); exact Kd.V_mono HL138_0.out (fun _ hk => ⟨⟨hk.1, hk.2.2⟩, hk.2.1⟩)) hg hat); have n4_ := Aside0.mk (hb); have n5_ := Aside0.mk (ho); clear HO_1; clear HO_9; clear BK137; clear HL138_0; clear HB; clear HO_6; have HO_1 := n0_; have HO_9 := n1_; have BK137 := n2_; have HL138_0 := n3_; have HB := n4_; have HO141 := n5_; clear n0_ n1_ n2_ n3_ n4_ n5_; clear ho hb hg hat))
       go_roundg k1
       case measure => have := HK1.out; omega
       case rel => exact ⟨(y139), (wrap64 (x11_1 + 1)), (by first | rfl | (simp; done) | (simp [*]; done)), H', ⟨by have := HK1.out; omega⟩, ⟨by (with_reducible repeat (first | apply Kd.V_alloc | apply Kd.V_drewN | apply Kd.V_drew)); exact Kd.V_mono HO_1.out (fun _ hk => ⟨hk.1.1, ⟨hk.2, hk.1.2⟩⟩)⟩, ⟨by (with_reducible repeat (first | apply Kd.N_alloc | apply Kd.N_drewN | apply Kd.N_drew)); exact HO141.out⟩, ⟨by (with_reducible repeat (first | apply Kd.V_alloc | apply Kd.V_drewN | apply Kd.V_drew)); exact Kd.V_mono HO_9.out (fun _ hk => ⟨hk.1.1, ⟨hk.2, hk.1.2⟩⟩)⟩, ⟨by (with_reducible repeat (first | refine blk_drewN ?_ _ | refine blk_drew ?_ | refine blk_alloc ?_ _)); exact BK137.out⟩, ⟨by repeat (first | (with_reducible first | exact HB.out | apply below_alloc | apply pw_below_drewN | apply below_drew1 | refine below_set ?_ GE137.out) | exact HB.out)⟩⟩
      ·rw [if_neg c7] at H
       exact absurd H (by simp)
     ·rw [if_neg c6] at H
      exact absurd H (by simp)
    ·rw [if_neg c5] at H
     exact absurd H (by simp)
   ·rw [if_neg c4] at H
    have c4b0 : decide (x11_1 < (l1.length : Int)) = false := decide_eq_false c4
    clear c4
    by_cases c9 : (l1.length : Int) ≤ 20
    ·rw [if_pos c9] at H
     have c9b0 : decide ((l1.length : Int) ≤ 20) = true := decide_eq_true c9
     have c9b1 : decide (l1.length ≤ 20) = true := decide_eq_true (by omega)
     clear c9
     replace H := Option.bind_eq_some_iff.mp H
     obtain ⟨t142, A100, H⟩ := H
     replace H : (some (x6_1, t142)) = some (r1, r2) := H
     have A10 := Aside0.mk A100
     clear A100
     simp only [Option.some.injEq, Prod.mk.injEq] at H
     obtain ⟨rfl, rfl⟩ := H
     have hcz11_0 : wr.cell? ⟨gb137, 0, none⟩ = some (.int .i64 a0_0) := (blk_cell BK137.out 0).trans rfl
     have hcz11_1 : wr.cell? ⟨gb137, 1, none⟩ = some (.int .i64 a0_1) := (blk_cell BK137.out 1).trans rfl
     have hcz11_2 : wr.cell? ⟨gb137, 2, none⟩ = some (.bool a0_2) := (blk_cell BK137.out 2).trans rfl
     have hcz11_3 : wr.cell? ⟨gb137, 3, none⟩ = some (.int .i64 a0_3) := (blk_cell BK137.out 3).trans rfl
     have hcz11_4 : wr.cell? ⟨gb137, 4, none⟩ = some (.int .i64 a0_4) := (blk_cell BK137.out 4).trans rfl
     have hcz11_5 : wr.cell? ⟨gb137, 5, none⟩ = some (.int .i64 a0_5) := (blk_cell BK137.out 5).trans rfl
     have hcz11_6 : wr.cell? ⟨gb137, 6, none⟩ = some (.string a0_6) := (blk_cell BK137.out 6).trans rfl
     have hcz11_7 : wr.cell? ⟨gb137, 7, none⟩ = some (.bool a0_7) := (blk_cell BK137.out 7).trans rfl
     have hcz11_8 : wr.cell? ⟨gb137, 8, none⟩ = some (.slice A0_8 l0_8.length c0_8) := (blk_cell BK137.out 8).trans rfl
     have hcz11_9 : wr.cell? ⟨gb137, 9, none⟩ = some (.slice A0_9 l0_9.length c0_9) := (blk_cell BK137.out 9).trans rfl
     have hfz11_0 := blk_frozen BK137.out 0
     have hfz11_1 := blk_frozen BK137.out 1
     have hfz11_2 := blk_frozen BK137.out 2
     have hfz11_3 := blk_frozen BK137.out 3
     have hfz11_4 := blk_frozen BK137.out 4
     have hfz11_5 := blk_frozen BK137.out 5
     have hfz11_6 := blk_frozen BK137.out 6
     have hfz11_7 := blk_frozen BK137.out 7
     have hfz11_8 := blk_frozen BK137.out 8
     have hfz11_9 := blk_frozen BK137.out 9
     obtain ⟨Ao12, co12, eo12⟩ := Kd.N_slice HO_6.out
     subst eo12
     go_wp2_with (first | (go_at_call 22; (with_reducible refine (spec_PlainAll.calls k1 a0_0 a0_1 a0_2 a0_3 a0_4 a0_5 a0_6 a0_7 _ _ l0_8 _ _ l0_9 _ _ x6_1 t142 _ ?side1 ?side2 ?side3 ?side4 ?side5 ?side6 A10.out).mono ?_); (case side1 => repeat (first | exact (Kd.C_below HR0_8.out HB.out) | (with_reducible refine Kd.C_alloc ?_ _) | (with_reducible refine Kd.C_drewN ?_ _) | (with_reducible refine Kd.C_drew ?_))); (case side2 => exact HC0_8.out); (case side3 => repeat (first | exact (Kd.C_below HR0_9.out HB.out) | (with_reducible refine Kd.C_alloc ?_ _) | (with_reducible refine Kd.C_drewN ?_ _) | (with_reducible refine Kd.C_drew ?_))); (case side4 => exact HC0_9.out); (case side5 => repeat (first | exact (Kd.N_reads' HO_6.out).2.2 | (with_reducible refine Kd.C_alloc ?_ _) | (with_reducible refine Kd.C_drewN ?_ _) | (with_reducible refine Kd.C_drew ?_))); (case side6 => exact (Kd.N_reads' HO_6.out).2.1); rintro e w13 ⟨rfl, hb⟩; have n0_ := Aside0.mk (Kd.V_below (by (with_reducible repeat (first | apply Kd.V_alloc | apply Kd.V_drewN | apply Kd.V_drew)); exact HO_1.out) hb); have n1_ := Aside0.mk (Kd.N_below (by (with_reducible repeat (first | apply Kd.N_alloc | apply Kd.N_drewN | apply Kd.N_drew)); exact HO_6.out) hb); have n2_ := Aside0.mk (Kd.V_below (by (with_reducible repeat (first | apply Kd.V_alloc | apply Kd.V_drewN | apply Kd.V_drew)); exact HO_9.out) hb); have n3_ := Aside0.mk (blk_below (g := gb137) (o := .cells #[.int .i64 a0_0, .int .i64 a0_1, .bool a0_2, .int .i64 a0_3, .int .i64 a0_4, .int .i64 a0_5, .string a0_6, .bool a0_7, .slice A0_8 l0_8.length c0_8, .slice A0_9 l0_9.length c0_9] 35 (0, 0)) (by (with_reducible repeat (first | refine blk_drewN ?_ _ | refine blk_drew ?_ | refine blk_alloc ?_ _)); exact BK137.out) hb); have n4_ := Aside0.mk (below_step (by repeat (first | (with_reducible first | exact HB.out | apply below_alloc | apply pw_below_drewN | apply below_drew1 | refine below_set ?_ GE137.out) | exact HB.out)) hb); clear HO_1; clear HO_6; clear HO_9; clear BK137; clear HB; have HO_1 := n0_; have HO_6 := n1_; have HO_9 := n2_; have BK137 := n3_; have HB := n4_; clear n0_ n1_ n2_ n3_ n4_; (try clear hb); (try clear hb2); (try clear hk); (try clear hi)))
     go_ret2
     exact ⟨_, by first | rfl | (simp [errW_none, errW_some] <;> rfl) | (simp [*, errW_none, errW_some] <;> rfl), by (with_reducible repeat (first | apply Kd.N_alloc | apply Kd.N_drewN | apply Kd.N_drew)); exact Kd.N_mono HO_6.out (fun _ hk => hk.1), by repeat (first | (with_reducible first | exact HB.out | apply below_alloc | apply pw_below_drewN | apply below_drew1 | refine below_set ?_ GE137.out) | exact HB.out)⟩
    ·rw [if_neg c9] at H
     have c9b0 : decide ((l1.length : Int) ≤ 20) = false := decide_eq_false c9
     have c9b1 : decide (l1.length ≤ 20) = false := decide_eq_false (by omega)
     clear c9
     simp only [Option.some.injEq, Prod.mk.injEq] at H
     obtain ⟨rfl, rfl⟩ := H
     go_wp2
     go_ret2
     exact ⟨_, by first | rfl | (simp [errW_none, errW_some] <;> rfl) | (simp [*, errW_none, errW_some] <;> rfl), by (with_reducible repeat (first | apply Kd.N_alloc | apply Kd.N_drewN | apply Kd.N_drew)); exact Kd.N_mono HO_6.out (fun _ hk => hk.1), by repeat (first | (with_reducible first | exact HB.out | apply below_alloc | apply pw_below_drewN | apply below_drew1 | refine below_set ?_ GE137.out) | exact HB.out)⟩

/-! ### laws_sameBytes: function 8 -/
def laws_sameBytes.f (l0 : List Int) (l1 : List Int) : Option (Bool) := some ((strOfNums l0).toList == (strOfNums l1).toList)
set_option maxHeartbeats 8000000 in
set_option maxRecDepth 100000 in
theorem laws_sameBytes.calls (A0 : Option Addr) (c0 : Nat) (l0 : List Int) (A1 : Option Addr) (c1 : Nat) (l1 : List Int) (r : Bool) (w : World) (hr0 : Kd.C (Kd.int .u8) w A0 l0.length l0) (hc0 : l0.length ≤ c0) (hr1 : Kd.C (Kd.int .u8) w A1 l1.length l1) (hc1 : l1.length ≤ c1) (h : laws_sameBytes.f l0 l1 = some r) :
  Calls Tryz.prog 8 #[.slice A0 l0.length c0, .slice A1 l1.length c1] w fun e w' => e = .returned (.bool r) ∧ Drawn0 w w' := by
 have HR0 := Aside0.mk hr0
 have HC0 := Aside0.mk hc0
 clear hr0 hc0
 have HR1 := Aside0.mk hr1
 have HC1 := Aside0.mk hc1
 clear hr1 hc1
 have H : (some ((strOfNums l0).toList == (strOfNums l1).toList)) = some r := h
 clear h
 obtain rfl := Option.some.inj H
 have hcv3 := Kd.C_string (P := Tryz.prog) (A := A0) (c := c0) Tryz.underlying23 Tryz.underlying5 Tryz.underlying9 HR0.out
 have hcv4 := Kd.C_string (P := Tryz.prog) (A := A1) (c := c1) Tryz.underlying23 Tryz.underlying5 Tryz.underlying9 HR1.out
 go_enter Tryz.func8, Tryz.ntmps8
 go_wp2
 go_ret
 exact ⟨by first | rfl | (simp; done) | (simp [*]; done), by repeat (first | exact Drawn0.refl _ | apply Drawn0.step)⟩

end Go.Proofs.YtiieljnllgeoeaaGreat.Q
