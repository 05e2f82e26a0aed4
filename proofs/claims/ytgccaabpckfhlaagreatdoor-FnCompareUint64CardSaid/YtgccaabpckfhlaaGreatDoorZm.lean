/- kernels.CompareNumbers, impl.operator, impl.copied. -/
import Derived.Test.YtgccaabpckfhlaaGreatDoorZlA
import Derived.Test.YtgccaabpckfhlaaGreatDoorZlB
import Derived.Test.YtgccaabpckfhlaaGreatDoorZlC
import Derived.Test.YtgccaabpckfhlaaGreatDoorZi
import Derived.Test.YtgccaabpckfhlaaGreatDoorQCUa
import Derived.Shelf.Abstract
namespace Go.Proofs.YtgccaabpckfhlaaGreatDoor.Q
open Go.RowKit Go.Proofs.YtgccaabpckfhlaaGreatDoorW.PrintWords Go.Proofs.YtgccaabpckfhlaaGreatDoorW.PrintLast Go.Proofs.YtgccaabpckfhlaaGreatDoorW.PrintMore
set_option linter.unusedVariables false
set_option linter.unusedSimpArgs false
set_option maxHeartbeats 1000000 in
set_option maxRecDepth 100000 in
theorem operator0_calls (w : World) : Calls Tryz.prog 15 #[.int .i64 0] w fun e w' => e = .returned (.int .i8 0) ∧ Below w.heap.size w w' := by
  go_enter Tryz.func15, Tryz.ntmps15
  go_wp2
  go_ret
  exact ⟨rfl, below_alloc (Below.refl _ _) _⟩
set_option maxHeartbeats 1000000 in
set_option maxRecDepth 100000 in
theorem operator1_calls (w : World) : Calls Tryz.prog 15 #[.int .i64 1] w fun e w' => e = .returned (.int .i8 1) ∧ Below w.heap.size w w' := by
  go_enter Tryz.func15, Tryz.ntmps15
  go_wp2
  go_ret
  exact ⟨rfl, below_alloc (Below.refl _ _) _⟩
set_option maxHeartbeats 1000000 in
set_option maxRecDepth 100000 in
theorem operator2_calls (w : World) : Calls Tryz.prog 15 #[.int .i64 2] w fun e w' => e = .returned (.int .i8 2) ∧ Below w.heap.size w w' := by
  go_enter Tryz.func15, Tryz.ntmps15
  go_wp2
  go_ret
  exact ⟨rfl, below_alloc (Below.refl _ _) _⟩
set_option maxHeartbeats 1000000 in
set_option maxRecDepth 100000 in
theorem operator3_calls (w : World) : Calls Tryz.prog 15 #[.int .i64 3] w fun e w' => e = .returned (.int .i8 3) ∧ Below w.heap.size w w' := by
  go_enter Tryz.func15, Tryz.ntmps15
  go_wp2
  go_ret
  exact ⟨rfl, below_alloc (Below.refl _ _) _⟩
theorem operator_calls (k : Nat) (hk : k < 4) (w : World) : Calls Tryz.prog 15 #[.int .i64 (k : Int)] w fun e w' => e = .returned (.int .i8 (k : Int)) ∧ Below w.heap.size w w' := by
  match k, hk with
  | 0, _ => exact operator0_calls w
  | 1, _ => exact operator1_calls w
  | 2, _ => exact operator2_calls w
  | 3, _ => exact operator3_calls w
theorem cmpAA_all (k : Nat) (hk : k < 4) : CmpAA k (45 + 3 * k) := by
  match k, hk with
  | 0, _ => exact cmpAA0_calls
  | 1, _ => exact cmpAA1_calls
  | 2, _ => exact cmpAA2_calls
  | 3, _ => exact cmpAA3_calls
theorem entAA (k : Nat) (hk : k < 4) : ∀ (args : Array Value) (w : World), (callFunc (45 + 3 * k) args).run Tryz.prog w = .ok (.enter (45 + 3 * k) args) w := by
  match k, hk with
  | 0, _ => exact enters_of Tryz.func45 (by kernel_rfl) rfl
  | 1, _ => exact enters_of Tryz.func48 (by kernel_rfl) rfl
  | 2, _ => exact enters_of Tryz.func51 (by kernel_rfl) rfl
  | 3, _ => exact enters_of Tryz.func54 (by kernel_rfl) rfl
theorem cmpAS_all (k : Nat) (hk : k < 4) : CmpAS k (46 + 3 * k) := by
  match k, hk with
  | 0, _ => exact cmpAS0_calls
  | 1, _ => exact cmpAS1_calls
  | 2, _ => exact cmpAS2_calls
  | 3, _ => exact cmpAS3_calls
theorem entAS (k : Nat) (hk : k < 4) : ∀ (args : Array Value) (w : World), (callFunc (46 + 3 * k) args).run Tryz.prog w = .ok (.enter (46 + 3 * k) args) w := by
  match k, hk with
  | 0, _ => exact enters_of Tryz.func46 (by kernel_rfl) rfl
  | 1, _ => exact enters_of Tryz.func49 (by kernel_rfl) rfl
  | 2, _ => exact enters_of Tryz.func52 (by kernel_rfl) rfl
  | 3, _ => exact enters_of Tryz.func55 (by kernel_rfl) rfl
theorem cmpSA_all (k : Nat) (hk : k < 4) : CmpSA k (47 + 3 * k) := by
  match k, hk with
  | 0, _ => exact cmpSA0_calls
  | 1, _ => exact cmpSA1_calls
  | 2, _ => exact cmpSA2_calls
  | 3, _ => exact cmpSA3_calls
theorem entSA (k : Nat) (hk : k < 4) : ∀ (args : Array Value) (w : World), (callFunc (47 + 3 * k) args).run Tryz.prog w = .ok (.enter (47 + 3 * k) args) w := by
  match k, hk with
  | 0, _ => exact enters_of Tryz.func47 (by kernel_rfl) rfl
  | 1, _ => exact enters_of Tryz.func50 (by kernel_rfl) rfl
  | 2, _ => exact enters_of Tryz.func53 (by kernel_rfl) rfl
  | 3, _ => exact enters_of Tryz.func56 (by kernel_rfl) rfl
theorem Glob.below {w w' : World} (h : Glob w) (hb : Below w.heap.size w w') : Glob w' := h.kept (Kept.of_below hb (fun _ => False)) (fun h => h) (fun h => h)
/-- What a comparison is given. -/
structure Ins (w : World) (X Y O frm c B co : Nat) (A : Option Addr) (xs ys bs : List Int) : Prop where
  hx : Row w X (xs.flatMap le8)
  hy : Row w Y (ys.flatMap le8)
  mx : xs.length ≤ 300
  my : ys.length ≤ 300
  bx : ∀ x ∈ xs, 0 ≤ x ∧ x < 18446744073709551616
  bY : ∀ x ∈ ys, 0 ≤ x ∧ x < 18446744073709551616
  hg : Glob w
  ho : Ob w B O co bs
  hA : At A O 0 bs.length
  hc : bs.length ≤ c
  ok : BytesOk bs
  hf : frm ≤ 7
  hb : bs.length ≤ 100
  hO : 0 < bs.length → O < w.heap.size ∧ 2 ≠ O ∧ 3 ≠ O
theorem Ins.below {w w' : World} {X Y O frm c B co : Nat} {A : Option Addr} {xs ys bs : List Int} (h : Ins w X Y O frm c B co A xs ys bs) (hb : Below w.heap.size w w') : Ins w' X Y O frm c B co A xs ys bs :=
  ⟨h.hx.below hb, h.hy.below hb, h.mx, h.my, h.bx, h.bY, h.hg.below hb, h.ho.kept (Kept.of_below hb (fun _ => False)) (fun h => h), h.hA, h.hc, h.ok, h.hf, h.hb, fun hp => by have := h.hO hp; have := hb.size; omega⟩
def xAt (how : Nat) (xs : List Int) (i : Nat) : Int := if how = 2 then xs.getD 0 0 else xs.getD i 0
def yAt (how : Nat) (ys : List Int) (i : Nat) : Int := if how = 1 then ys.getD 0 0 else ys.getD i 0
def cntN (how : Nat) (xs ys : List Int) : Nat := if how = 2 then ys.length else xs.length
def ansB (op how : Nat) (xs ys : List Int) : Nat → Bool := fun i => cmpB op (xAt how xs i) (yAt how ys i)
/-- The lists fit the way. -/
def Fits (how : Nat) (xs ys : List Int) : Prop := (how = 0 ∧ xs.length = ys.length) ∨ (how = 1 ∧ 0 < ys.length) ∨ (how = 2 ∧ 0 < xs.length)
theorem Tn.of_then {S : Nat → Prop} {w w1 w2 : World} (hb : Below w.heap.size w w1) (k : Tn S w1 w2) : Tn S w w2 := (Tn.of_below hb S).then_ k (fun _ h => .inl h)
set_option maxHeartbeats 1000000 in
set_option maxRecDepth 100000 in
theorem numbers0_calls (op X Y O frm c B co : Nat) (A : Option Addr) (xs ys bs : List Int) (w : World) (hop : op < 4) (hi : Ins w X Y O frm c B co A xs ys bs) (hl : Fits 0 xs ys) (hr : frm + cntN 0 xs ys ≤ 8 * bs.length) :
    Calls Tryz.prog 14 #[.int .i8 (op : Int), .int .i64 0, .slice (some ⟨X, 0, none⟩) (8 * xs.length) (8 * xs.length), .slice (some ⟨Y, 0, none⟩) (8 * ys.length) (8 * ys.length), .slice A bs.length c, .int .i64 (frm : Int)] w fun e w' => e = .returned (.tuple #[]) ∧ Ob w' B O co (tells (ansB op 0 xs ys) frm (cntN 0 xs ys) bs) ∧ Tn (SO O bs) w w' := by
  have H1 := Aside0.mk (getCmp_calls op hop w)
  have HI := Aside0.mk hi
  have HL := Aside0.mk hl
  have HR := Aside0.mk hr
  have HOP := Aside0.mk hop
  clear hi hl hr hop
  go_enter Tryz.func14, Tryz.ntmps14
  go_wp2_with (first
    | (go_at_call 26; refine H1.out.mono ?_; rintro e w1 ⟨rfl, hw1⟩; have hb1 : Below w.heap.size w w1 := (by rw [hw1]; exact below_alloc (Below.refl _ w) _); have hn1 : w1.heap[w.heap.size]? = some (.cells #[fv (45 + 3 * op), fv (46 + 3 * op), fv (47 + 3 * op)] 144 (0, 0)) := (by rw [hw1]; exact blk_new w _); have B1 := Aside0.mk hb1; have G1 := Aside0.mk (gen_calls w.heap.size _ _ _ w1 hn1); clear hw1 hb1 hn1 H1)
    | (go_at_call 25; refine G1.out.mono ?_; rintro e w2 ⟨q, p1, p2, p3, rfl, hq, h1, h2, h3, z1, z2, z3, hb2⟩; have B2 := Aside0.mk (B1.out.trans (hb2.mono B1.out.size)); have HP := Aside0.mk (And.intro (blk_cell h1 0) (Nat.le_trans B1.out.size z1)); have K1 := Aside0.mk (kernelOf0_calls q (.func (.func 64) #[] #[.pointer (some ⟨p1, 0, none⟩)]) rfl w2 ((blk_cell hq 0).trans rfl)); clear hq h1 h2 h3 z1 z2 z3 hb2 G1)
    | (go_at_call 24; go_loud (refine K1.out.mono ?_; rintro e w3 ⟨rfl, rfl⟩; have I2 := HI.out.below B2.out; have KK := Aside0.mk (kAA_calls op (45 + 3 * op) X Y O p1 frm c B co A xs ys bs w3 (entAA op HOP.out) (cmpAA_all op HOP.out) I2.hx I2.hy (by have := HL.out; unfold Fits at this; omega) (I2.mx) (by have := I2.mx; omega) (by have := I2.my; omega) I2.bx I2.bY HP.out.1 I2.hg I2.ho I2.hA I2.hc I2.ok I2.hf (by have := HR.out; simpa [cntN] using this) I2.hb (fun hp => ⟨(I2.hO hp).1, by have := HI.out.hO hp; have := HP.out.2; omega, (I2.hO hp).2.1, (I2.hO hp).2.2⟩)); clear I2 K1))
    | (go_at_call 64; refine KK.out.mono ?_; rintro e w4 ⟨rfl, e1, e2⟩; have E := Aside0.mk (And.intro e1 e2); clear e1 e2 KK))
  go_end0
  obtain ⟨e1, e2⟩ := E.out
  exact ⟨rfl, e1, Tn.of_then B2.out e2⟩
set_option maxHeartbeats 1000000 in
set_option maxRecDepth 100000 in
theorem numbers1_calls (op X Y O frm c B co : Nat) (A : Option Addr) (xs ys bs : List Int) (w : World) (hop : op < 4) (hi : Ins w X Y O frm c B co A xs ys bs) (hl : Fits 1 xs ys) (hr : frm + cntN 1 xs ys ≤ 8 * bs.length) :
    Calls Tryz.prog 14 #[.int .i8 (op : Int), .int .i64 1, .slice (some ⟨X, 0, none⟩) (8 * xs.length) (8 * xs.length), .slice (some ⟨Y, 0, none⟩) (8 * ys.length) (8 * ys.length), .slice A bs.length c, .int .i64 (frm : Int)] w fun e w' => e = .returned (.tuple #[]) ∧ Ob w' B O co (tells (ansB op 1 xs ys) frm (cntN 1 xs ys) bs) ∧ Tn (SO O bs) w w' := by
  have H1 := Aside0.mk (getCmp_calls op hop w)
  have HI := Aside0.mk hi
  have HL := Aside0.mk hl
  have HR := Aside0.mk hr
  have HOP := Aside0.mk hop
  clear hi hl hr hop
  go_enter Tryz.func14, Tryz.ntmps14
  go_wp2_with (first
    | (go_at_call 26; refine H1.out.mono ?_; rintro e w1 ⟨rfl, hw1⟩; have hb1 : Below w.heap.size w w1 := (by rw [hw1]; exact below_alloc (Below.refl _ w) _); have hn1 : w1.heap[w.heap.size]? = some (.cells #[fv (45 + 3 * op), fv (46 + 3 * op), fv (47 + 3 * op)] 144 (0, 0)) := (by rw [hw1]; exact blk_new w _); have B1 := Aside0.mk hb1; have G1 := Aside0.mk (gen_calls w.heap.size _ _ _ w1 hn1); clear hw1 hb1 hn1 H1)
    | (go_at_call 25; refine G1.out.mono ?_; rintro e w2 ⟨q, p1, p2, p3, rfl, hq, h1, h2, h3, z1, z2, z3, hb2⟩; have B2 := Aside0.mk (B1.out.trans (hb2.mono B1.out.size)); have HP := Aside0.mk (And.intro (blk_cell h2 0) (Nat.le_trans B1.out.size z2)); have K1 := Aside0.mk (kernelOf1_calls q (.func (.func 68) #[] #[.pointer (some ⟨p2, 0, none⟩)]) rfl w2 ((blk_cell hq 2).trans rfl)); clear hq h1 h2 h3 z1 z2 z3 hb2 G1)
    | (go_at_call 24; go_loud (refine K1.out.mono ?_; rintro e w3 ⟨rfl, rfl⟩; have I2 := HI.out.below B2.out; have KK := Aside0.mk (kAS_calls op (46 + 3 * op) X Y O p2 frm c B co A xs ys bs w3 (entAS op HOP.out) (cmpAS_all op HOP.out) I2.hx I2.hy (by have := HL.out; unfold Fits at this; omega) (I2.mx) (by have := I2.mx; omega) (by have := I2.my; omega) I2.bx I2.bY HP.out.1 I2.hg I2.ho I2.hA I2.hc I2.ok I2.hf (by have := HR.out; simpa [cntN] using this) I2.hb (fun hp => ⟨(I2.hO hp).1, by have := HI.out.hO hp; have := HP.out.2; omega, (I2.hO hp).2.1, (I2.hO hp).2.2⟩)); clear I2 K1))
    | (go_at_call 68; refine KK.out.mono ?_; rintro e w4 ⟨rfl, e1, e2⟩; have E := Aside0.mk (And.intro e1 e2); clear e1 e2 KK))
  go_end0
  obtain ⟨e1, e2⟩ := E.out
  exact ⟨rfl, e1, Tn.of_then B2.out e2⟩
set_option maxHeartbeats 1000000 in
set_option maxRecDepth 100000 in
theorem numbers2_calls (op X Y O frm c B co : Nat) (A : Option Addr) (xs ys bs : List Int) (w : World) (hop : op < 4) (hi : Ins w X Y O frm c B co A xs ys bs) (hl : Fits 2 xs ys) (hr : frm + cntN 2 xs ys ≤ 8 * bs.length) :
    Calls Tryz.prog 14 #[.int .i8 (op : Int), .int .i64 2, .slice (some ⟨X, 0, none⟩) (8 * xs.length) (8 * xs.length), .slice (some ⟨Y, 0, none⟩) (8 * ys.length) (8 * ys.length), .slice A bs.length c, .int .i64 (frm : Int)] w fun e w' => e = .returned (.tuple #[]) ∧ Ob w' B O co (tells (ansB op 2 xs ys) frm (cntN 2 xs ys) bs) ∧ Tn (SO O bs) w w' := by
  have H1 := Aside0.mk (getCmp_calls op hop w)
  have HI := Aside0.mk hi
  have HL := Aside0.mk hl
  have HR := Aside0.mk hr
  have HOP := Aside0.mk hop
  clear hi hl hr hop
  go_enter Tryz.func14, Tryz.ntmps14
  go_wp2_with (first
    | (go_at_call 26; refine H1.out.mono ?_; rintro e w1 ⟨rfl, hw1⟩; have hb1 : Below w.heap.size w w1 := (by rw [hw1]; exact below_alloc (Below.refl _ w) _); have hn1 : w1.heap[w.heap.size]? = some (.cells #[fv (45 + 3 * op), fv (46 + 3 * op), fv (47 + 3 * op)] 144 (0, 0)) := (by rw [hw1]; exact blk_new w _); have B1 := Aside0.mk hb1; have G1 := Aside0.mk (gen_calls w.heap.size _ _ _ w1 hn1); clear hw1 hb1 hn1 H1)
    | (go_at_call 25; refine G1.out.mono ?_; rintro e w2 ⟨q, p1, p2, p3, rfl, hq, h1, h2, h3, z1, z2, z3, hb2⟩; have B2 := Aside0.mk (B1.out.trans (hb2.mono B1.out.size)); have HP := Aside0.mk (And.intro (blk_cell h3 0) (Nat.le_trans B1.out.size z3)); have K1 := Aside0.mk (kernelOf2_calls q (.func (.func 70) #[] #[.pointer (some ⟨p3, 0, none⟩)]) rfl w2 ((blk_cell hq 1).trans rfl)); clear hq h1 h2 h3 z1 z2 z3 hb2 G1)
    | (go_at_call 24; go_loud (refine K1.out.mono ?_; rintro e w3 ⟨rfl, rfl⟩; have I2 := HI.out.below B2.out; have KK := Aside0.mk (kSA_calls op (47 + 3 * op) X Y O p3 frm c B co A xs ys bs w3 (entSA op HOP.out) (cmpSA_all op HOP.out) I2.hx I2.hy (by have := HL.out; unfold Fits at this; omega) (I2.my) (by have := I2.mx; omega) (by have := I2.my; omega) I2.bx I2.bY HP.out.1 I2.hg I2.ho I2.hA I2.hc I2.ok I2.hf (by have := HR.out; simpa [cntN] using this) I2.hb (fun hp => ⟨(I2.hO hp).1, by have := HI.out.hO hp; have := HP.out.2; omega, (I2.hO hp).2.1, (I2.hO hp).2.2⟩)); clear I2 K1))
    | (go_at_call 70; refine KK.out.mono ?_; rintro e w4 ⟨rfl, e1, e2⟩; have E := Aside0.mk (And.intro e1 e2); clear e1 e2 KK))
  go_end0
  obtain ⟨e1, e2⟩ := E.out
  exact ⟨rfl, e1, Tn.of_then B2.out e2⟩
end Go.Proofs.YtgccaabpckfhlaaGreatDoor.Q
