/- The search in a table of hashes. -/
import Derived.Test.YtiieljnllgeoeaaGreatHb
import Derived.Laws.Bits64b
namespace Go.Proofs.YtiieljnllgeoeaaGreat.Q
open Go.RowKit Go.Proofs.YtiieljnllgeoeaaGreatW.PrintWords Go.Proofs.YtiieljnllgeoeaaGreatW.PrintLast Go.Proofs.YtiieljnllgeoeaaGreatW.PrintMore
set_option linter.unusedVariables false
set_option linter.unusedSimpArgs false
theorem and_mask (a p : Nat) (ha : a < 18446744073709551616) (hp : p ≤ 30) : bits .and .u64 (a : Int) ((2 ^ p - 1 : Nat) : Int) = ((a % 2 ^ p : Nat) : Int) := by
 have h2 : (2 : Nat) ^ p ≤ 2 ^ 30 := Nat.pow_le_pow_right (by omega) hp
 rw [bits_and_u64_nat a (2 ^ p - 1) ha (by omega), Nat.and_two_pow_sub_one_eq_mod]
theorem entL_len (es : List Ent) : (entL es).length = 3 * es.length := by
 induction es with
 | nil => rfl
 | cons e es ih => unfold entL at *; simp [ih]; omega
theorem entL_at (es : List Ent) : ∀ i, i < es.length → (entL es)[3 * i]? = some (.int .u64 ((es.getD i e0).h : Int)) ∧ (entL es)[3 * i + 1]? = some (.int .i32 (es.getD i e0).val) ∧ (entL es)[3 * i + 2]? = some (.int .i32 (es.getD i e0).idx) := by
 induction es with
 | nil => intro i hi; simp at hi
 | cons e es ih =>
  intro i hi
  have hc : entL (e :: es) = .int .u64 (e.h : Int) :: .int .i32 e.val :: .int .i32 e.idx :: entL es := rfl
  rw [hc]
  cases i with
  | zero => simp
  | succ i =>
   obtain ⟨a, b, c⟩ := ih i (by simpa using hi)
   rw [show 3 * (i + 1) = 3 * i + 1 + 1 + 1 by omega]
   simp only [List.getElem?_cons_succ, List.getD_cons_succ]
   exact ⟨a, b, c⟩
/-- A row of entries. -/
def Ents (w : World) (M : Nat) (es : List Ent) : Prop := w.heap[M]? = some (.cells (entL es).toArray 247 (0, 0))
theorem Ents.at {w : World} {M : Nat} {es : List Ent} (h : Ents w M es) (i : Nat) (hi : i < es.length) : w.cell? ⟨M, i * 3, none⟩ = some (.int .u64 ((es.getD i e0).h : Int)) ∧ w.cell? ⟨M, i * 3 + 1, none⟩ = some (.int .i32 (es.getD i e0).val) ∧ w.cell? ⟨M, i * 3 + 2, none⟩ = some (.int .i32 (es.getD i e0).idx) := by
 rw [Nat.mul_comm i 3]
 obtain ⟨a, b, c⟩ := entL_at es i hi
 exact ⟨(blk_cell h _).trans (by simpa using a), (blk_cell h _).trans (by simpa using b), (blk_cell h _).trans (by simpa using c)⟩
set_option maxHeartbeats 4000000 in
set_option maxRecDepth 100000 in
theorem lk_eq {w : World} {H M cap mask n p : Nat} {es : List Ent} (hH : w.heap[H]? = some (.cells (tabL cap mask n M es.length) 150 (0, 0))) (hM : Ents w M es) (hp : es.length = 2 ^ p) (hp2 : p ≤ 30) (hes : ∀ e ∈ es, e.h < 18446744073709551616)
  (P : Addr) (x : Int) (hP : w.cell? P = some (.int .i32 x)) (v0 : Int) (v : Nat) (hv : (v : Int) = if v0 = 0 then 42 else v0) (hvb : v < 18446744073709551616) (k r : Nat) (b : Bool) (hk : lk k es v (fun y => decide (x = y)) (v % es.length) (v / 32 + 1) = some (r, b)) :
  Calls Tryz.prog 148 #[.pointer (some ⟨H, 0, none⟩), .int .u64 v0, .int .u64 ((es.length - 1 : Nat) : Int), .func (.func 140) #[] #[.pointer (some P)]] w fun e w' => e = .returned (.tuple #[.int .u64 (r : Int), .bool b]) ∧ r < es.length ∧ Below w.heap.size w w' := by
 have c0 : w.cell? ⟨H, 0, none⟩ = some (.int .u64 (cap : Int)) := (blk_cell hH 0).trans rfl
 have c1 : w.cell? ⟨H, 1, none⟩ = some (.int .u64 (mask : Int)) := (blk_cell hH 1).trans rfl
 have c2 : w.cell? ⟨H, 2, none⟩ = some (.int .u64 (n : Int)) := (blk_cell hH 2).trans rfl
 have c3 : w.cell? ⟨H, 3, none⟩ = some (.slice (some ⟨M, 0, none⟩) es.length es.length) := (blk_cell hH 3).trans rfl
 have HX := Aside0.mk (fix_calls (.agg (tabL cap mask n M es.length)) v0 v hv w cap mask n M es.length rfl)
 unfold tabL at HX
 have h2 : (2 : Nat) ^ p ≤ 2 ^ 30 := Nat.pow_le_pow_right (by omega) hp2
 have hpos : 0 < es.length := by rw [hp]; exact Nat.two_pow_pos p
 have ha := and_mask v p hvb hp2
 rw [← hp] at ha
 have hlen : es.length ≤ 1073741824 := by omega
 have hsh : IntKind.u64.wrap ((v : Int) / 32 + 1) = ((v / 32 + 1 : Nat) : Int) := by simp [IntKind.wrap, IntKind.bits, IntKind.signed]; omega
 have HA := Aside0.mk (fun a (h : a < 18446744073709551616) => and_mask a p h hp2)
 rw [← hp] at HA
 have hv0 : v ≠ 0 := by intro q; subst q; split at hv <;> omega
 have HB := Aside0.mk (And.intro hpos (And.intro hlen (And.intro hes (And.intro hvb hv0))))
 have HM := Aside0.mk (And.intro hH (And.intro hM hP))
 have HK := Aside0.mk hk
 clear hH hM hp hp2 hes hP hv hvb hk h2 hpos hlen hv0
 go_enter Tryz.func148, Tryz.ntmps148
 go_upto_region 5 with (first | (go_at_call 150; go_loud (with_reducible refine HX.out.mono ?_; rintro e w1 ⟨rfl, b1⟩; have B1 := Aside0.mk b1; clear b1)))
 have hH1 : w1.heap[H]? = some (.cells (tabL cap mask n M es.length) 150 (0, 0)) := (B1.out.block H (blk_lt HM.out.1)).trans HM.out.1
 have hM1 : Ents w1 M es := (B1.out.block M (blk_lt HM.out.2.1)).trans HM.out.2.1
 have hP1 : w1.cell? P = some (.int .i32 x) := by
  have hb : P.block < w.heap.size := by
   rcases Nat.lt_or_ge P.block w.heap.size with q | q
   ·exact q
   ·have := HM.out.2.2
    unfold World.cell? at this
    rw [Array.getElem?_eq_none q] at this
    simp at this
  rw [World.cell?_of_block (B1.out.block P.block hb)]
  exact HM.out.2.2
 clear c0 c1 c2 c3
 have c3 : w1.cell? ⟨H, 3, none⟩ = some (.slice (some ⟨M, 0, none⟩) es.length es.length) := (blk_cell hH1 3).trans rfl
 have HE := Aside0.mk (fun y => eq_calls P x y w1 hP1)
 have HM1 := Aside0.mk hM1
 clear hH1 hM1 hP1
 go_wp2
 clear ha hsh
 go_loopg [10, 11] k (fun kq v10 v11 w' => ∃ i pt : Nat, v10 = .int .u64 (i : Int) ∧ v11 = .int .u64 (pt : Int) ∧ Aside0 (lk kq es v (fun y => decide (x = y)) i pt = some (r, b)) ∧ Aside0 (i < es.length ∧ pt < 1152921504606846976) ∧ w' = w1)
 case atStart => exact ⟨v % es.length, v / 32 + 1, rfl, rfl, HK, ⟨Nat.mod_lt _ HB.out.1, by have := HB.out.2.2.2.1; omega⟩, rfl⟩
 case round =>
  obtain ⟨i, pt, rfl, rfl, HL, HI, rfl⟩ := hrel
  obtain ⟨q0, q1, q2⟩ := HM1.out.at i HI.out.1
  have g1 : (0 : Int) ≤ (i : Int) := by omega
  have g2 : (i : Int) < (es.length : Int) := by have := HI.out.1; omega
  have hmem := getD_mem HI.out.1
  have hlt := HB.out.2.2.1 _ hmem
  clear hmem
  generalize he : es.getD i e0 = en at q0 q1 q2 hlt
  have HEN := Aside0.mk he
  clear he
  cases gk with
  | zero => exact absurd HL.out (by simp [lk])
  | succ k1 =>
   have hl := HL.out
   simp only [lk] at hl
   rw [HEN.out] at hl
   clear HL
   have hcl := HE.out en.val
   by_cases c1 : en.h = v
   ·have d1 : ((en.h : Int) == (v : Int)) = true := beq_iff_eq.mpr (by omega)
    have d2 : decide ((en.h : Int) = (v : Int)) = true := decide_eq_true (by omega)
    by_cases c2 : x = en.val
    ·rw [if_pos ⟨c1, by simpa using c2⟩] at hl
     have hr : i = r ∧ true = b := by simpa using hl
     obtain ⟨rfl, rfl⟩ := hr
     have d3 : decide (x = en.val) = true := decide_eq_true c2
     rw [d3] at hcl
     have HCL := Aside0.mk hcl
     clear hcl c1 c2 hl d3
     go_wp2_with (first | (go_at_call 140; go_loud (with_reducible refine HCL.out.mono ?_; rintro e w3 ⟨rfl, hw3⟩; subst w3)))
     go_ret2
     exact ⟨rfl, HI.out.1, B1.out⟩
    ·rw [if_neg (fun q => c2 (by simpa using q.2))] at hl
     have hv0 := HB.out.2.2.2.2
     rw [if_neg (by omega)] at hl
     have d3 : decide (x = en.val) = false := decide_eq_false c2
     have d4 : ((en.h : Int) == 0) = false := beq_eq_false_iff_ne.mpr (by omega)
     have d5 : decide ((en.h : Int) = 0) = false := decide_eq_false (by omega)
     rw [d3] at hcl
     have HCL := Aside0.mk hcl
     have hi2 := HA.out (i + pt) (by have := HB.out.2.1; have := HI.out; omega)
     have hsm : IntKind.u64.wrap ((i : Int) + (pt : Int)) = ((i + pt : Nat) : Int) := by simp [IntKind.wrap, IntKind.bits, IntKind.signed]; have := HB.out.2.1; have := HI.out; omega
     have hsh : IntKind.u64.wrap ((pt : Int) / 32 + 1) = ((pt / 32 + 1 : Nat) : Int) := by simp [IntKind.wrap, IntKind.bits, IntKind.signed]; have := HI.out; omega
     have HL := Aside0.mk hl
     clear hcl c1 c2 d3 hv0 hl
     go_wp2_with (first | (go_at_call 140; go_loud (with_reducible refine HCL.out.mono ?_; rintro e w3 ⟨rfl, hw3⟩; subst w3)))
     go_roundg k1
     case measure => omega
     case rel => exact ⟨(i + pt) % es.length, pt / 32 + 1, congrArg (Value.int .u64) (by rw [← Int.natCast_add]; exact hi2), by simp, HL, ⟨Nat.mod_lt _ HB.out.1, by have := HI.out; omega⟩, rfl⟩
   ·rw [if_neg (fun q => c1 q.1)] at hl
    have d1 : ((en.h : Int) == (v : Int)) = false := beq_eq_false_iff_ne.mpr (by omega)
    have d2 : decide ((en.h : Int) = (v : Int)) = false := decide_eq_false (by omega)
    by_cases c2 : en.h = 0
    ·rw [if_pos c2] at hl
     have hr : i = r ∧ false = b := by simpa using hl
     obtain ⟨rfl, rfl⟩ := hr
     rw [c2] at q0
     have q0 : wr.cell? ⟨M, i * 3, none⟩ = some (.int .u64 0) := q0
     rw [c2] at d1 d2
     have d1 : ((0 : Int) == (v : Int)) = false := d1
     have d2 : decide ((0 : Int) = (v : Int)) = false := d2
     clear hcl c1 c2 hl
     go_wp2
     go_ret2
     exact ⟨rfl, HI.out.1, B1.out⟩
    ·rw [if_neg c2] at hl
     have d4 : ((en.h : Int) == 0) = false := beq_eq_false_iff_ne.mpr (by omega)
     have d5 : decide ((en.h : Int) = 0) = false := decide_eq_false (by omega)
     have hi2 := HA.out (i + pt) (by have := HB.out.2.1; have := HI.out; omega)
     have hsm : IntKind.u64.wrap ((i : Int) + (pt : Int)) = ((i + pt : Nat) : Int) := by simp [IntKind.wrap, IntKind.bits, IntKind.signed]; have := HB.out.2.1; have := HI.out; omega
     have hsh : IntKind.u64.wrap ((pt : Int) / 32 + 1) = ((pt / 32 + 1 : Nat) : Int) := by simp [IntKind.wrap, IntKind.bits, IntKind.signed]; have := HI.out; omega
     have HL := Aside0.mk hl
     clear hcl c1 c2 hl
     go_wp2
     go_roundg k1
     case measure => omega
     case rel => exact ⟨(i + pt) % es.length, pt / 32 + 1, congrArg (Value.int .u64) (by rw [← Int.natCast_add]; exact hi2), by simp, HL, ⟨Nat.mod_lt _ HB.out.1, by have := HI.out; omega⟩, rfl⟩
set_option maxHeartbeats 4000000 in
set_option maxRecDepth 100000 in
theorem lk_no {w : World} {H M cap mask n p : Nat} {es : List Ent} (hH : w.heap[H]? = some (.cells (tabL cap mask n M es.length) 150 (0, 0))) (hM : Ents w M es) (hp : es.length = 2 ^ p) (hp2 : p ≤ 30) (hes : ∀ e ∈ es, e.h < 18446744073709551616)
  (v0 : Int) (v : Nat) (hv : (v : Int) = if v0 = 0 then 42 else v0) (hvb : v < 18446744073709551616) (k r : Nat) (b : Bool) (hk : lk k es v (fun _ => false) (v % es.length) (v / 32 + 1) = some (r, b)) :
  Calls Tryz.prog 148 #[.pointer (some ⟨H, 0, none⟩), .int .u64 v0, .int .u64 ((es.length - 1 : Nat) : Int), .func (.func 157) #[] #[]] w fun e w' => e = .returned (.tuple #[.int .u64 (r : Int), .bool b]) ∧ r < es.length ∧ Below w.heap.size w w' := by
 have c0 : w.cell? ⟨H, 0, none⟩ = some (.int .u64 (cap : Int)) := (blk_cell hH 0).trans rfl
 have c1 : w.cell? ⟨H, 1, none⟩ = some (.int .u64 (mask : Int)) := (blk_cell hH 1).trans rfl
 have c2 : w.cell? ⟨H, 2, none⟩ = some (.int .u64 (n : Int)) := (blk_cell hH 2).trans rfl
 have c3 : w.cell? ⟨H, 3, none⟩ = some (.slice (some ⟨M, 0, none⟩) es.length es.length) := (blk_cell hH 3).trans rfl
 have HX := Aside0.mk (fix_calls (.agg (tabL cap mask n M es.length)) v0 v hv w cap mask n M es.length rfl)
 unfold tabL at HX
 have h2 : (2 : Nat) ^ p ≤ 2 ^ 30 := Nat.pow_le_pow_right (by omega) hp2
 have hpos : 0 < es.length := by rw [hp]; exact Nat.two_pow_pos p
 have ha := and_mask v p hvb hp2
 rw [← hp] at ha
 have hlen : es.length ≤ 1073741824 := by omega
 have hsh : IntKind.u64.wrap ((v : Int) / 32 + 1) = ((v / 32 + 1 : Nat) : Int) := by simp [IntKind.wrap, IntKind.bits, IntKind.signed]; omega
 have HA := Aside0.mk (fun a (h : a < 18446744073709551616) => and_mask a p h hp2)
 rw [← hp] at HA
 have hv0 : v ≠ 0 := by intro q; subst q; split at hv <;> omega
 have HB := Aside0.mk (And.intro hpos (And.intro hlen (And.intro hes (And.intro hvb hv0))))
 have HM := Aside0.mk (And.intro hH hM)
 have HK := Aside0.mk hk
 clear hH hM hp hp2 hes hv hvb hk h2 hpos hlen hv0
 go_enter Tryz.func148, Tryz.ntmps148
 go_upto_region 5 with (first | (go_at_call 150; go_loud (with_reducible refine HX.out.mono ?_; rintro e w1 ⟨rfl, b1⟩; have B1 := Aside0.mk b1; clear b1)))
 have hH1 : w1.heap[H]? = some (.cells (tabL cap mask n M es.length) 150 (0, 0)) := (B1.out.block H (blk_lt HM.out.1)).trans HM.out.1
 have hM1 : Ents w1 M es := (B1.out.block M (blk_lt HM.out.2)).trans HM.out.2
 clear c0 c1 c2 c3
 have c3 : w1.cell? ⟨H, 3, none⟩ = some (.slice (some ⟨M, 0, none⟩) es.length es.length) := (blk_cell hH1 3).trans rfl
 have HE := Aside0.mk (fun y : Int => no_calls (.int .i32 y) w1)
 have HM1 := Aside0.mk hM1
 clear hH1 hM1
 go_wp2
 clear ha hsh
 go_loopg [10, 11] k (fun kq v10 v11 w' => ∃ i pt : Nat, v10 = .int .u64 (i : Int) ∧ v11 = .int .u64 (pt : Int) ∧ Aside0 (lk kq es v (fun _ => false) i pt = some (r, b)) ∧ Aside0 (i < es.length ∧ pt < 1152921504606846976) ∧ w' = w1)
 case atStart => exact ⟨v % es.length, v / 32 + 1, rfl, rfl, HK, ⟨Nat.mod_lt _ HB.out.1, by have := HB.out.2.2.2.1; omega⟩, rfl⟩
 case round =>
  obtain ⟨i, pt, rfl, rfl, HL, HI, rfl⟩ := hrel
  obtain ⟨q0, q1, q2⟩ := HM1.out.at i HI.out.1
  have g1 : (0 : Int) ≤ (i : Int) := by omega
  have g2 : (i : Int) < (es.length : Int) := by have := HI.out.1; omega
  have hmem := getD_mem HI.out.1
  have hlt := HB.out.2.2.1 _ hmem
  clear hmem
  generalize he : es.getD i e0 = en at q0 q1 q2 hlt
  have HEN := Aside0.mk he
  clear he
  cases gk with
  | zero => exact absurd HL.out (by simp [lk])
  | succ k1 =>
   have hl := HL.out
   simp only [lk] at hl
   rw [HEN.out] at hl
   clear HL
   have hcl := HE.out en.val
   by_cases c1 : en.h = v
   ·have d1 : ((en.h : Int) == (v : Int)) = true := beq_iff_eq.mpr (by omega)
    have d2 : decide ((en.h : Int) = (v : Int)) = true := decide_eq_true (by omega)
    rw [if_neg (fun q => Bool.false_ne_true q.2)] at hl
    have hv0 := HB.out.2.2.2.2
    rw [if_neg (by omega)] at hl
    have d4 : ((en.h : Int) == 0) = false := beq_eq_false_iff_ne.mpr (by omega)
    have d5 : decide ((en.h : Int) = 0) = false := decide_eq_false (by omega)
    have HCL := Aside0.mk hcl
    have hi2 := HA.out (i + pt) (by have := HB.out.2.1; have := HI.out; omega)
    have hsm : IntKind.u64.wrap ((i : Int) + (pt : Int)) = ((i + pt : Nat) : Int) := by simp [IntKind.wrap, IntKind.bits, IntKind.signed]; have := HB.out.2.1; have := HI.out; omega
    have hsh : IntKind.u64.wrap ((pt : Int) / 32 + 1) = ((pt / 32 + 1 : Nat) : Int) := by simp [IntKind.wrap, IntKind.bits, IntKind.signed]; have := HI.out; omega
    have HL := Aside0.mk hl
    clear hcl c1 hv0 hl
    go_wp2_with (first | (go_at_call 157; go_loud (with_reducible refine HCL.out.mono ?_; rintro e w3 ⟨rfl, hw3⟩; subst w3)))
    go_roundg k1
    case measure => omega
    case rel => exact ⟨(i + pt) % es.length, pt / 32 + 1, congrArg (Value.int .u64) (by rw [← Int.natCast_add]; exact hi2), by simp, HL, ⟨Nat.mod_lt _ HB.out.1, by have := HI.out; omega⟩, rfl⟩
   ·rw [if_neg (fun q => c1 q.1)] at hl
    have d1 : ((en.h : Int) == (v : Int)) = false := beq_eq_false_iff_ne.mpr (by omega)
    have d2 : decide ((en.h : Int) = (v : Int)) = false := decide_eq_false (by omega)
    by_cases c2 : en.h = 0
    ·rw [if_pos c2] at hl
     have hr : i = r ∧ false = b := by simpa using hl
     obtain ⟨rfl, rfl⟩ := hr
     rw [c2] at q0
     have q0 : wr.cell? ⟨M, i * 3, none⟩ = some (.int .u64 0) := q0
     rw [c2] at d1 d2
     have d1 : ((0 : Int) == (v : Int)) = false := d1
     have d2 : decide ((0 : Int) = (v : Int)) = false := d2
     clear hcl c1 c2 hl
     go_wp2
     go_ret2
     exact ⟨rfl, HI.out.1, B1.out⟩
    ·rw [if_neg c2] at hl
     have d4 : ((en.h : Int) == 0) = false := beq_eq_false_iff_ne.mpr (by omega)
     have d5 : decide ((en.h : Int) = 0) = false := decide_eq_false (by omega)
     have hi2 := HA.out (i + pt) (by have := HB.out.2.1; have := HI.out; omega)
     have hsm : IntKind.u64.wrap ((i : Int) + (pt : Int)) = ((i + pt : Nat) : Int) := by simp [IntKind.wrap, IntKind.bits, IntKind.signed]; have := HB.out.2.1; have := HI.out; omega
     have hsh : IntKind.u64.wrap ((pt : Int) / 32 + 1) = ((pt / 32 + 1 : Nat) : Int) := by simp [IntKind.wrap, IntKind.bits, IntKind.signed]; have := HI.out; omega
     have HL := Aside0.mk hl
     clear hcl c1 c2 hl
     go_wp2
     go_roundg k1
     case measure => omega
     case rel => exact ⟨(i + pt) % es.length, pt / 32 + 1, congrArg (Value.int .u64) (by rw [← Int.natCast_add]; exact hi2), by simp, HL, ⟨Nat.mod_lt _ HB.out.1, by have := HI.out; omega⟩, rfl⟩
end Go.Proofs.YtiieljnllgeoeaaGreat.Q
