/- impl.CompareUint64: what it is given, its deferred call, its result. -/
import Derived.Test.YtgccaabpckfhlaaGreatDoorZm
import Derived.Deep.AppendLies
import Derived.Deep.DeepCutAuto
namespace Go.Proofs.YtgccaabpckfhlaaGreatDoor.Q
open Go.RowKit Go.Proofs.YtgccaabpckfhlaaGreatDoorW.PrintWords Go.Proofs.YtgccaabpckfhlaaGreatDoorW.PrintLast Go.Proofs.YtgccaabpckfhlaaGreatDoorW.PrintMore
set_option linter.unusedVariables false
set_option linter.unusedSimpArgs false
theorem noBytes_idle (pl pok : Addr) (w : World) :
    CallsD Tryz.prog 10 #[.pointer (some pl), .pointer (some pok)] .returning w fun e u' w' => e = .returned (.tuple #[]) ∧ u' = .returning ∧ w' = w := by
  refine callsD_of_wpS Tryz.func10 rfl fun c₀ cs hu => ?_
  apply wpS_seq
  apply wpS_region
  simp [wpOpsS, go_sem, recoverD, hu, Tryz.ntmps10, Exit.thenS]
  refine wpS_cond (t := false) (by simp [Act.eval, Array.replicate]) ?_
  simp only [Bool.false_eq_true, if_false]
  refine wpS_of_wp (wp_skip ?_)
  cases c₀
  simp_all [bodyPostS, results, Tryz.results10]
theorem ob_of_R {w : World} {B : Nat} {ok : Nat → Prop} {v : Value} {bs : List Int} (h : Kd.R (Kd.int .u8) 5 w B ok v bs) : ∃ A c O co, v = .slice A bs.length c ∧ bs.length ≤ c ∧ At A O 0 bs.length ∧ Ob w B O co bs ∧ (0 < bs.length → B ≤ O ∧ O < w.heap.size ∧ A = some ⟨O, 0, none⟩ ∧ co = c) := by
  by_cases hn : 0 < bs.length
  · have h1 := h
    obtain ⟨h0, inner, hown, hr⟩ := h1
    obtain ⟨g, cap, rfl, hb, hg⟩ := hown.form hn
    refine ⟨some ⟨g, 0, none⟩, cap, g, cap, rfl, (Kd.R_reads' h).2.1, fun _ => rfl, fun _ => Kd.R_flat (fun h => h) h (fun k hk _ => ?_), fun _ => ⟨hb, hg, rfl, rfl⟩⟩
    simpa [Value.ownBlock] using hk.symm
  · obtain ⟨A, c, rfl⟩ := Kd.R_slice h
    exact ⟨A, c, 0, 0, rfl, (Kd.R_reads' h).2.1, fun hp => absurd hp hn, fun hp => absurd hp hn, fun hp => absurd hp hn⟩
theorem R_back {w w' : World} {B O co c : Nat} {A : Option Addr} {ok : Nat → Prop} {bs bs2 : List Int} (h : Kd.R (Kd.int .u8) 5 w B ok (.slice A bs.length c) bs) (ho : Ob w' B O co bs2) (hl : bs2.length = bs.length) (hk : Kept w w' (SO O bs)) (hA : 0 < bs.length → A = some ⟨O, 0, none⟩ ∧ co = c) : Kd.R (Kd.int .u8) 5 w' B (fun _ => True) (.slice A bs.length c) bs2 := by
  by_cases hn : 0 < bs.length
  · obtain ⟨rfl, rfl⟩ := hA hn
    have := ho (by omega)
    rw [hl] at this
    exact Kd.R_mono this (fun _ _ => trivial)
  · have e1 : bs = [] := List.eq_nil_of_length_eq_zero (by omega)
    have e2 : bs2 = [] := List.eq_nil_of_length_eq_zero (by omega)
    subst e1 e2
    exact Kd.R_mono (Kd.R_kept h hk (fun k _ hs => by have := hs.2; simp at this)) (fun _ _ => trivial)
theorem tells_len (b : Nat → Bool) (f : Nat) : ∀ k bs, (tells b f k bs).length = bs.length
  | 0, bs => rfl
  | k + 1, bs => by rw [tells, List.length_set, tells_len b f k bs]
def FairC (op how : Int) (xs ys bs : List Int) (frm : Int) : Prop := (0 ≤ op ∧ op < 4) ∧ (0 ≤ how ∧ how ≤ 2) ∧ Fits how.toNat xs ys ∧ xs.length ≤ 300 ∧ ys.length ≤ 300 ∧ (∀ x ∈ xs, 0 ≤ x ∧ x < 18446744073709551616) ∧ (∀ x ∈ ys, 0 ≤ x ∧ x < 18446744073709551616) ∧ BytesOk bs ∧ bs.length ≤ 100 ∧ (0 ≤ frm ∧ frm ≤ 7) ∧ frm.toNat + cntN how.toNat xs ys ≤ 8 * bs.length
instance (op how : Int) (xs ys bs : List Int) (frm : Int) : Decidable (FairC op how xs ys bs frm) := by unfold FairC Fits BytesOk; infer_instance
def impl_CompareUint64.f (op how : Int) (xs ys bs : List Int) (frm : Int) : Option (List Int × Bool) := if FairC op how xs ys bs frm then some (tells (ansB op.toNat how.toNat xs ys) frm.toNat (cntN how.toNat xs ys) bs, true) else none
theorem numbers_calls (op how X Y O frm c B co : Nat) (A : Option Addr) (xs ys bs : List Int) (w : World) (hop : op < 4) (hh : how ≤ 2) (hi : Ins w X Y O frm c B co A xs ys bs) (hl : Fits how xs ys) (hr : frm + cntN how xs ys ≤ 8 * bs.length) :
    Calls Tryz.prog 14 #[.int .i8 (op : Int), .int .i64 (how : Int), .slice (some ⟨X, 0, none⟩) (8 * xs.length) (8 * xs.length), .slice (some ⟨Y, 0, none⟩) (8 * ys.length) (8 * ys.length), .slice A bs.length c, .int .i64 (frm : Int)] w fun e w' => e = .returned (.tuple #[]) ∧ Ob w' B O co (tells (ansB op how xs ys) frm (cntN how xs ys) bs) ∧ Tn (SO O bs) w w' := by
  match how, hh with
  | 0, _ => exact numbers0_calls op X Y O frm c B co A xs ys bs w hop hi hl hr
  | 1, _ => exact numbers1_calls op X Y O frm c B co A xs ys bs w hop hi hl hr
  | 2, _ => exact numbers2_calls op X Y O frm c B co A xs ys bs w hop hi hl hr
theorem fill0 (xs : List Int) : fillL le8 8 xs 0 = List.replicate (8 * xs.length) 0 := by simp [fillL]
theorem fill1 (xs : List Int) : fillL le8 8 xs xs.length = xs.flatMap le8 := by simp [fillL]
theorem le8_len (x : Int) : (le8 x).length = 8 := rfl
theorem make8 (n : Nat) (h : n ≤ 300) (W : World) : (Instr.makeSlice 23 (.int .i64 (8 * (n : Int))) (.int .i64 (8 * (n : Int)))).run Tryz.prog W = .ok (.slice (some ⟨W.heap.size, 0, none⟩) (8 * n) (8 * n)) (W.alloc (zerosK .u8 5 (8 * n))) := by
  have := make_bytes (8 * n) (by omega) W
  rwa [show ((8 * n : Nat) : Int) = 8 * (n : Int) by omega] at this
/-- Two rows of zeros, new. -/
structure Two (w w' : World) (X Y : Nat) (l m : List Int) : Prop where
  ne : X ≠ Y
  x : w.heap.size ≤ X
  y : w.heap.size ≤ Y
  rx : Row w' X l
  ry : Row w' Y m
  b : Below w.heap.size w w'
theorem zeros_row (W : World) (n : Nat) : Row (W.alloc (zerosK .u8 5 n)) W.heap.size (List.replicate n 0) := row_zeros .u8 5 W n
theorem size_alloc (W : World) (o : Obj) : (W.alloc o).heap.size = W.heap.size + 1 := by simp
theorem two_a {W W1 W2 : World} {n m : Nat} (h1 : Below W.heap.size W.drew W1) (h2 : Below (W1.alloc (zerosK .u8 5 n)).heap.size (W1.alloc (zerosK .u8 5 n)) W2) : Two W (W2.alloc (zerosK .u8 5 m)) W1.heap.size W2.heap.size (List.replicate n 0) (List.replicate m 0) := by
  have s1 : W.heap.size ≤ W1.heap.size := h1.size
  have s2 := h2.size
  rw [size_alloc] at s2
  have hb : Below W.heap.size W W1 := (below_drew (Below.refl _ W)).trans h1
  exact ⟨by omega, s1, by omega, (RowK.below (zeros_row W1 n) h2).alloc _, zeros_row W2 m, below_alloc ((below_alloc hb _).trans (h2.mono (by rw [size_alloc]; omega))) _⟩
theorem two_b {W W1 W2 : World} {n m : Nat} (h1 : Below W.heap.size W.drew W1) (h2 : Below W1.heap.size W1 W2) : Two W ((W2.alloc (zerosK .u8 5 n)).alloc (zerosK .u8 5 m)) W2.heap.size (W2.heap.size + 1) (List.replicate n 0) (List.replicate m 0) := by
  have s1 : W.heap.size ≤ W1.heap.size := h1.size
  have s2 := h2.size
  have hb : Below W.heap.size W W1 := (below_drew (Below.refl _ W)).trans h1
  have hr := zeros_row (W2.alloc (zerosK .u8 5 n)) m
  rw [size_alloc] at hr
  exact ⟨by omega, by omega, by omega, (zeros_row W2 n).alloc _, hr, below_alloc (below_alloc (hb.trans (h2.mono s1)) _) _⟩
theorem two_c {W W1 W2 : World} {n m : Nat} (h1 : Below W.heap.size W.drew W1) (h2 : Below W1.heap.size W1 W2) : Two W ((W2.alloc (zerosK .u8 5 m)).alloc (zerosK .u8 5 n)) (W2.heap.size + 1) W2.heap.size (List.replicate n 0) (List.replicate m 0) := by
  have s1 : W.heap.size ≤ W1.heap.size := h1.size
  have s2 := h2.size
  have hb : Below W.heap.size W W1 := (below_drew (Below.refl _ W)).trans h1
  have hr := zeros_row (W2.alloc (zerosK .u8 5 m)) n
  rw [size_alloc] at hr
  exact ⟨by omega, by omega, by omega, hr, (zeros_row W2 m).alloc _, below_alloc (below_alloc (hb.trans (h2.mono s1)) _) _⟩
end Go.Proofs.YtgccaabpckfhlaaGreatDoor.Q
