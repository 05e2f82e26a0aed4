/- Several texts of ours in one: Pg, Ph. -/
import Derived.Test.YtiieljnllgeoeaaGreatQDKc
import Derived.Test.YtiieljnllgeoeaaGreatQDKd
import Derived.Test.YtiieljnllgeoeaaGreatRo
import Derived.Test.YtiieljnllgeoeaaGreatHZ
import Derived.Test.YtiieljnllgeoeaaGreatDi
import Derived.Laws.Closers25b
/- The plain law: the spec functions over parts. -/
namespace Go.Proofs.YtiieljnllgeoeaaGreat.Q
open Go.RowKit Go.Proofs.YtiieljnllgeoeaaGreatW.PrintWords Go.Proofs.YtiieljnllgeoeaaGreatW.PrintLast Go.Proofs.YtiieljnllgeoeaaGreatW.PrintMore
set_option linter.unusedVariables false
set_option linter.unusedSimpArgs false

theorem rd29 (l : List S29) (i : Nat) (h : i < l.length) : rd_T29 l (i : Int) = l[i] := by
 show l.getD (i : Int).toNat z29 = _
 rw [Int.toNat_natCast, List.getD_eq_getElem?_getD, List.getElem?_eq_getElem h]; rfl
theorem rd6 (l : List (List S29)) (i : Nat) (h : i < l.length) : rd_L6 l (i : Int) = l[i] := by
 show l.getD (i : Int).toNat [] = _
 rw [Int.toNat_natCast, List.getD_eq_getElem?_getD, List.getElem?_eq_getElem h]; rfl
theorem w64s (i : Nat) (h : i ≤ 2097152) : wrap64 ((i : Int) + 1) = ((i + 1 : Nat) : Int) := by unfold wrap64; omega

section
variable (t0 t1 : Int) (t2 : Bool) (t3 t4 t5 : Int) (t6 : ByteArray) (t7 : Bool) (t8 t9 : List Int)

theorem plainAll_is (Ok : S29 → Prop) (K0 : Nat) (hfit : ∀ k, K0 ≤ k → ∀ x : S29, x.f0 = false → Ranged x → ∃ b, spec_OneFits.f k t0 t1 t2 t3 t4 t5 t6 t7 t8 t9 x.f0 x.f1 x.f2 x.f3 = some b ∧ (b = true → Ok x))
  (l : List S29) (hl : l.length ≤ 1048576) (hr : ∀ x ∈ l, Ranged x) : ∀ k i : Nat, i ≤ l.length → l.length - i + K0 < k →
  ∃ b, spec_PlainAll.l0 k l l (l.length : Int) (i : Int) t0 t1 t2 t3 t4 t5 t6 t7 t8 t9 = some b ∧ (b = true → l.length ≤ 500 ∧ ∀ x ∈ l.drop i, Ok x) := by
 intro k
 induction k with
 | zero => intro i _ h; omega
 | succ k ih =>
  intro i h1 h2
  unfold spec_PlainAll.l0
  by_cases c : i < l.length
  ·rw [if_pos (by omega), if_pos (by omega), if_pos (by omega), rd29 l i c, w64s i (by omega)]
   by_cases c0 : (l[i]).f0 = true
   ·rw [if_pos c0]
    exact ⟨false, rfl, fun h => by cases h⟩
   ·rw [if_neg c0]
    obtain ⟨b, hb, hok⟩ := hfit k (by omega) l[i] (by simpa using c0) (hr _ (List.getElem_mem _))
    rw [hb]
    show ∃ b', (if b = true then _ else some false) = some b' ∧ _
    by_cases cb : b = true
    ·rw [if_pos cb]
     obtain ⟨b', h3, h4⟩ := ih (i + 1) (by omega) (by omega)
     refine ⟨b', h3, fun e => ⟨(h4 e).1, ?_⟩⟩
     rw [List.drop_eq_getElem_cons c]
     intro x hx
     rcases List.mem_cons.1 hx with rfl | hx
     ·exact hok cb
     ·exact (h4 e).2 x hx
    ·rw [if_neg cb]
     exact ⟨false, rfl, fun h => by cases h⟩
  ·rw [if_neg (by omega)]
   refine ⟨_, rfl, fun h => ⟨by have := of_decide_eq_true h; omega, ?_⟩⟩
   rw [List.drop_of_length_le (by omega)]
   intro x hx; cases hx

theorem allOf_is (Ok : S29 → Prop) (K0 : Nat) (hfit : ∀ k, K0 ≤ k → ∀ x : S29, x.f0 = false → Ranged x → ∃ b, spec_OneFits.f k t0 t1 t2 t3 t4 t5 t6 t7 t8 t9 x.f0 x.f1 x.f2 x.f3 = some b ∧ (b = true → Ok x))
  (ps : List (List S29)) (h1 : ps.length ≤ 1048576) (h2 : ps.flatten.length ≤ 1048576) (hr : ∀ p ∈ ps, ∀ x ∈ p, Ranged x) : ∀ k i : Nat, i ≤ ps.length → ps.length - i + ps.flatten.length + K0 + 1 < k →
  ∃ b, laws_allOf.l0 k ps (ps.take i).flatten ps (ps.length : Int) (i : Int) t0 t1 t2 t3 t4 t5 t6 t7 t8 t9 = some (ps.flatten, b) ∧ (b = true → ps.length ≤ 20 ∧ ps.flatten.length ≤ 500 ∧ ∀ x ∈ ps.flatten, Ok x) := by
 intro k
 induction k with
 | zero => intro i _ h; omega
 | succ k ih =>
  intro i g1 g2
  unfold laws_allOf.l0
  by_cases c : i < ps.length
  ·have e : (ps.take i).flatten ++ ps[i] = (ps.take (i + 1)).flatten := by
    have ht : ps.take (i + 1) = ps.take i ++ [ps[i]] := by rw [List.take_add_one, List.getElem?_eq_getElem c]; rfl
    rw [ht, List.flatten_append]
    simp only [List.flatten_cons, List.flatten_nil, List.append_nil]
   have hle : ((ps.take (i + 1)).flatten).length ≤ ps.flatten.length := by
    have : ps.flatten = (ps.take (i + 1)).flatten ++ (ps.drop (i + 1)).flatten := by rw [← List.flatten_append, List.take_append_drop]
    rw [this, List.length_append]; omega
   rw [if_pos (by omega), if_pos (by omega), if_pos (by omega), rd6 ps i c, w64s i (by omega), if_pos (by rw [← List.length_append, e]; omega), e]
   exact ih (i + 1) (by omega) (by omega)
  ·rw [if_neg (by omega), List.take_of_length_le (by omega)]
   by_cases c20 : (ps.length : Int) ≤ 20
   ·rw [if_pos c20]
    have hrf : ∀ x ∈ ps.flatten, Ranged x := by
     intro x hx
     obtain ⟨p, hp, hxp⟩ := List.mem_flatten.1 hx
     exact hr p hp x hxp
    obtain ⟨b, h3, h4⟩ := plainAll_is t0 t1 t2 t3 t4 t5 t6 t7 t8 t9 Ok K0 hfit ps.flatten h2 hrf k 0 (Nat.zero_le _) (by omega)
    have h3' : spec_PlainAll.f k t0 t1 t2 t3 t4 t5 t6 t7 t8 t9 ps.flatten = some b := h3
    rw [h3']
    exact ⟨b, rfl, fun e => ⟨by omega, (h4 e).1, by have := (h4 e).2; simpa using this⟩⟩
   ·rw [if_neg c20]
    exact ⟨false, rfl, fun h => by cases h⟩

theorem plainly_is (bs : S29 → List Int) (l : List S29) (hb : ∀ x ∈ l, spec_PlainBytes.f t0 t1 t2 t3 t4 t5 t6 t7 t8 t9 x.f0 x.f1 x.f2 x.f3 = some (bs x) ∧ (bs x).length ≤ 1024) (hl : l.length ≤ 1000) :
  ∀ k i : Nat, i ≤ l.length → l.length - i < k → spec_Plainly.l0 k ((l.take i).flatMap bs) l (l.length : Int) (i : Int) t0 t1 t2 t3 t4 t5 t6 t7 t8 t9 = some (l.flatMap bs) := by
 have len : ∀ m : List S29, (∀ x ∈ m, (bs x).length ≤ 1024) → (m.flatMap bs).length ≤ 1024 * m.length := by
  intro m
  induction m with
  | nil => intro _; simp
  | cons x r ihm =>
   intro h
   have h0 := h x (by simp)
   have := ihm (fun y hy => h y (by simp [hy]))
   rw [List.flatMap_cons, List.length_append, List.length_cons]
   omega
 intro k
 induction k with
 | zero => intro i _ h; omega
 | succ k ih =>
  intro i h1 h2
  unfold spec_Plainly.l0
  by_cases c : i < l.length
  ·have hx := hb l[i] (List.getElem_mem _)
   have e : (l.take i).flatMap bs ++ bs l[i] = (l.take (i + 1)).flatMap bs := by
    have ht : l.take (i + 1) = l.take i ++ [l[i]] := by rw [List.take_add_one, List.getElem?_eq_getElem c]; rfl
    rw [ht, List.flatMap_append]
    simp only [List.flatMap_cons, List.flatMap_nil, List.append_nil]
   have hle := len (l.take i) (fun x hx => (hb x (List.mem_of_mem_take hx)).2)
   have hle2 : 1024 * (l.take i).length ≤ 1024 * 1000 := Nat.mul_le_mul_left _ (by rw [List.length_take]; omega)
   rw [if_pos (by omega), if_pos (by omega), if_pos (by omega), rd29 l i c, hx.1, w64s i (by omega)]
   show (if ((l.take i).flatMap bs).length + (bs l[i]).length < 140737488355328 then _ else none) = _
   rw [if_pos (by omega), e]
   exact ih (i + 1) (by omega) (by omega)
  ·rw [if_neg (by omega), List.take_of_length_le (by omega)]
end
theorem same_self (l : List Int) : laws_sameBytes.f l l = some true := by simp [laws_sameBytes.f]
end Go.Proofs.YtiieljnllgeoeaaGreat.Q

/- The plain law: the values that fit. -/
namespace Go.Proofs.YtiieljnllgeoeaaGreat.Q
open Go.RowKit Go.Proofs.YtiieljnllgeoeaaGreatW.PrintWords Go.Proofs.YtiieljnllgeoeaaGreatW.PrintLast Go.Proofs.YtiieljnllgeoeaaGreatW.PrintMore
set_option linter.unusedVariables false
set_option linter.unusedSimpArgs false
theorem fits_num (x : Int) (h0 : 0 ≤ x) (h1 : x < 18446744073709551616) (h : IntKind.u64.wrap (shr .i64 (wrap64 (shl .u64 x (wrap64 32))) (wrap64 32)) = x) : x = wrap32 x % 18446744073709551616 := by
 have e : wrap64 32 = 32 := by unfold wrap64; omega
 rw [e] at h
 have hs : shl .u64 x 32 = x * 4294967296 % 18446744073709551616 := by
  simp [shl, IntKind.wrap, IntKind.bits, IntKind.signed]
 rw [hs] at h
 have hr : ∀ y : Int, shr .i64 y 32 = y / 4294967296 := by
  intro y
  simp [shr, IntKind.wrap, IntKind.bits, IntKind.signed]
 rw [hr] at h
 have hu : ∀ y : Int, IntKind.u64.wrap y = y % 18446744073709551616 := by
  intro y
  simp [IntKind.wrap, IntKind.bits, IntKind.signed]
 rw [hu] at h
 unfold wrap64 at h
 unfold wrap32
 omega
/-- A value of 32 bits. -/
def OkV (x : S29) : Prop := x.f0 = false ∧ x.f2.data = #[] ∧ x.f3 = [] ∧ x.f1 = wrap32 x.f1 % 18446744073709551616
theorem fits_I32 (k : Nat) (hk : 1 ≤ k) (x : S29) (hx : x.f0 = false) (hr : Ranged x) : ∃ b, spec_OneFits.f k 2 32 true 0 0 0 (⟨#[]⟩ : ByteArray) false ([] : List Int) ([] : List Int) x.f0 x.f1 x.f2 x.f3 = some b ∧ (b = true → OkV x) := by
 obtain ⟨k, rfl⟩ : ∃ j, k = j + 1 := ⟨k - 1, by omega⟩
 have hw : (0 : Int) ≤ wrap64 32 := by unfold wrap64; omega
 unfold spec_OneFits.f
 by_cases c : (x.f3.length : Int) > 0
 ·rw [if_pos c]
  exact ⟨false, by simp [spec_OneFits.j0], fun h => by cases h⟩
 ·rw [if_neg c, if_neg (by simp [hx])]
  by_cases ct : x.f2.toList = []
  ·refine ⟨IntKind.u64.wrap (shr .i64 (wrap64 (shl .u64 x.f1 (wrap64 32))) (wrap64 32)) == x.f1, by simp [spec_OneFits.j0, spec_OneBits.f, hx, ct, hw], fun h => ⟨hx, ?_, ?_, ?_⟩⟩
   ·rw [(toList_nil_iff_emptyBytes x.f2).1 ct]; rfl
   ·exact List.eq_nil_of_length_eq_zero (by omega)
   ·exact fits_num x.f1 hr.1 hr.2 (by simpa using h)
  ·exact ⟨false, by simp [spec_OneFits.j0, spec_OneBits.f, hx, ct], fun h => by cases h⟩
end Go.Proofs.YtiieljnllgeoeaaGreat.Q
