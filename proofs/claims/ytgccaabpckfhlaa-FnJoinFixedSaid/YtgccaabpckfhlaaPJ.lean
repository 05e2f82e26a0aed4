/- The plain law: joined parts are those of all parts, one behind the other. -/
import Derived.Test.YtgccaabpckfhlaaQJFb
namespace Go.Proofs.Ytgccaabpckfhlaa.Q
open Go.RowKit Go.Proofs.YtgccaabpckfhlaaW.PrintWords Go.Proofs.YtgccaabpckfhlaaW.PrintLast Go.Proofs.YtgccaabpckfhlaaW.PrintMore
set_option linter.unusedVariables false
set_option linter.unusedSimpArgs false
theorem rd28 (l : List S28) (i : Nat) (h : i < l.length) : rd_T28 l (i : Int) = l[i] := by
  show l.getD (i : Int).toNat z28 = _
  rw [Int.toNat_natCast, List.getD_eq_getElem?_getD, List.getElem?_eq_getElem h]; rfl
theorem w64s (i : Nat) (h : i ≤ 2147483647) : wrap64 ((i : Int) + 1) = ((i + 1 : Nat) : Int) := by unfold wrap64; omega
theorem same_self (l : List Int) : laws_sameBytes.f l l = some true := by simp [laws_sameBytes.f]
theorem zz_loop (l : List S28) (hl : l.length ≤ 2147483647) : ∀ k i : Nat, i ≤ l.length → l.length - i < k → ∃ b, laws_zzFits13.l0 k l (l.length : Int) (i : Int) = some b ∧ (b = true → ∀ x ∈ l.drop i, x.f1.length ≤ 2147483647) := by
  intro k
  induction k with
  | zero => intro i _ h; omega
  | succ k ih =>
    intro i h1 h2
    unfold laws_zzFits13.l0
    by_cases c : i < l.length
    · rw [if_pos (by omega), if_pos (by omega), if_pos (by omega), rd28 l i c, w64s i (by omega)]
      unfold laws_zzFits14.f
      by_cases c1 : ((l[i]).f1.length : Int) > 2147483647
      · rw [if_pos c1]
        exact ⟨false, rfl, fun h => by cases h⟩
      · rw [if_neg c1]
        obtain ⟨b, h3, h4⟩ := ih (i + 1) (by omega) (by omega)
        refine ⟨b, h3, fun e => ?_⟩
        rw [List.drop_eq_getElem_cons c]
        intro x hx
        rcases List.mem_cons.1 hx with rfl | hx
        · omega
        · exact h4 e x hx
    · rw [if_neg (by omega)]
      refine ⟨true, rfl, fun _ => ?_⟩
      rw [List.drop_of_length_le (by omega)]
      intro x hx; cases hx
theorem zz_is (l : List S28) (k : Nat) (hk : l.length < k) : ∃ b, laws_zzFits13.f k l = some b ∧ (b = true → ∀ x ∈ l, x.f1.length ≤ 2147483647) := by
  unfold laws_zzFits13.f
  by_cases c : (l.length : Int) > 2147483647
  · rw [if_pos c]
    exact ⟨false, rfl, fun h => by cases h⟩
  · rw [if_neg c]
    obtain ⟨b, h1, h2⟩ := zz_loop l (by omega) k 0 (Nat.zero_le _) (by omega)
    exact ⟨b, h1, by simpa using h2⟩
theorem join_loop (l : List S28) (wd : Nat) (hl : l.length ≤ 20) (hw1 : 1 ≤ wd) (hw2 : wd ≤ 32) (hs : ∀ x ∈ l, x.f1.length ≤ 2147483647) : ∀ k i : Nat, i ≤ l.length → l.length - i < k → (∀ x ∈ l.take i, PartOk wd x) →
    laws_FnJoinFixed.l0 k l (wd : Int) true (joinB wd (l.take i)) l (l.length : Int) (i : Int) = some true := by
  intro k
  induction k with
  | zero => intro i _ h; omega
  | succ k ih =>
    intro i h1 h2 h3
    unfold laws_FnJoinFixed.l0
    by_cases c : i < l.length
    · rw [if_pos (by omega), if_pos (by omega), if_pos (by omega), rd28 l i c, w64s i (by omega)]
      obtain ⟨x, hx⟩ : ∃ x, x = l[i] := ⟨_, rfl⟩
      rw [← hx]
      have hget : l[i]? = some x := by rw [hx]; exact List.getElem?_eq_getElem c
      have hmem : x ∈ l := List.mem_of_getElem? hget
      by_cases c0 : x.f0 = true
      · rw [if_pos c0]
        by_cases c1 : x.f2 < 0
        · rw [if_pos c1]
        rw [if_neg c1]
        by_cases c2 : x.f3 < 0
        · rw [if_pos c2]
        rw [if_neg c2]
        by_cases c3 : x.f2 > 200
        · rw [if_pos c3]
        rw [if_neg c3]
        by_cases c4 : x.f3 > 200
        · rw [if_pos c4]
        rw [if_neg c4]
        obtain ⟨o, ho⟩ : ∃ o : Nat, x.f2 = (o : Int) := ⟨x.f2.toNat, by omega⟩
        obtain ⟨q, hq⟩ : ∃ q : Nat, x.f3 = (q : Int) := ⟨x.f3.toNat, by omega⟩
        have p0 : (o + q) * wd ≤ 12800 := Nat.le_trans (Nat.mul_le_mul (by omega) hw2) (by decide : 400 * 32 ≤ 12800)
        have p1 : o * wd ≤ 6400 := Nat.le_trans (Nat.mul_le_mul (by omega) hw2) (by decide : 200 * 32 ≤ 6400)
        have e1 : wrap64 (x.f2 + x.f3) = ((o + q : Nat) : Int) := by rw [ho, hq]; unfold wrap64; omega
        have e2 : wrap64 (((o + q : Nat) : Int) * (wd : Int)) = (((o + q) * wd : Nat) : Int) := by rw [← Int.natCast_mul]; unfold wrap64; omega
        have e3 : wrap64 (x.f2 * (wd : Int)) = ((o * wd : Nat) : Int) := by rw [ho, ← Int.natCast_mul]; unfold wrap64; omega
        have hle : o * wd ≤ (o + q) * wd := Nat.mul_le_mul_right _ (by omega)
        rw [e1, e2, e3]
        clear e1 e2 e3
        obtain ⟨P, hP⟩ : ∃ P, P = (o + q) * wd := ⟨_, rfl⟩
        obtain ⟨B0, hB0⟩ : ∃ B0, B0 = o * wd := ⟨_, rfl⟩
        rw [← hP, ← hB0] at hle ⊢
        rw [← hP] at p0
        rw [← hB0] at p1
        by_cases c5 : (P : Int) > (x.f1.length : Int)
        · rw [if_pos c5]
        have d1 : (0 : Int) ≤ (B0 : Int) := by omega
        have d2 : (B0 : Int) ≤ (P : Int) := by omega
        have d3 : (P : Int) ≤ (x.f1.length : Int) := by omega
        rw [if_neg c5, if_pos d1, if_pos d2, if_pos d3, Int.toNat_natCast, Int.toNat_natCast]
        have d4 : P ≤ x.f1.length := by omega
        have hok : PartOk wd x := ⟨c0, by omega, by omega, by omega, by omega, by rw [ho, hq, Int.toNat_natCast, Int.toNat_natCast, ← hP]; exact d4, hs x hmem⟩
        have hpc : (x.f1.take P).drop B0 = pc wd x := by
          have hPB : P - B0 = q * wd := by rw [hP, hB0, Nat.add_mul]; omega
          unfold pc
          rw [ho, hq, Int.toNat_natCast, Int.toNat_natCast, List.drop_take, hPB, hB0]
        have hpl := pc_len wd x hok
        have hjl := join_len wd (l.take i) h3
        have hln := lenN_le (l.take i) (fun y hy => by have := h3 y hy; unfold PartOk at this; omega)
        have hlt : (l.take i).length ≤ 20 := by rw [List.length_take]; omega
        have hb1 : lenN (l.take i) * wd ≤ 4000 * 32 := Nat.mul_le_mul (by omega) hw2
        have hb2 : x.f3.toNat * wd ≤ 200 * 32 := Nat.mul_le_mul (by omega) hw2
        have d5 : (joinB wd (l.take i)).length + (pc wd x).length < 140737488355328 := by omega
        rw [hpc, if_pos d5, ← join_step wd l i x hget]
        refine ih (i + 1) (by omega) (by omega) ?_
        have et : l.take (i + 1) = l.take i ++ [x] := by rw [List.take_add_one, hget]; simp
        rw [et]
        intro y hy
        rcases List.mem_append.1 hy with hy | hy
        · exact h3 y hy
        · rw [List.mem_singleton.1 hy]; exact hok
      · rw [if_neg c0]
    · rw [if_neg (by omega)]
      have hi : i = l.length := by omega
      subst hi
      rw [List.take_length] at h3 ⊢
      have hf : FairJ l (wd : Int) := ⟨hl, by omega, by omega, by rwa [Int.toNat_natCast]⟩
      have him : impl_JoinFixed.f l (wd : Int) = some (joinB wd l, true) := by
        unfold impl_JoinFixed.f
        rw [if_pos hf, Int.toNat_natCast]
      rw [him]
      simp only [Option.bind_some, if_true, same_self]
theorem law_JF (l : List S28) (a : Int) : ∃ k, laws_FnJoinFixed.f k l a = some true := by
  refine ⟨l.length + 100, ?_⟩
  obtain ⟨K, hK⟩ : ∃ K, l.length + 100 = K + 2 := ⟨l.length + 98, by omega⟩
  unfold laws_FnJoinFixed.f
  obtain ⟨b, hb, hbt⟩ := zz_is l (l.length + 100) (by omega)
  rw [hb, hK]
  simp only [Option.bind_some]
  by_cases cb : b = true
  · rw [if_pos cb]
    have h1 : impl_JoinFixed.f [(⟨true, [1, 2], 1, 1⟩ : S28)] 1 = some ([2], true) := by decide
    rw [h1]
    simp only [Option.bind_some, if_true, same_self]
    have ht : ∀ x8, laws_FnJoinFixed.j1 (K + 1) l a true x8 true = some true := fun x8 => by simp only [laws_FnJoinFixed.j1, if_true]
    simp only [laws_FnJoinFixed.j0]
    by_cases c1 : (l.length : Int) > 20
    · rw [if_pos c1]; exact ht _
    rw [if_neg c1]
    by_cases c2 : (l.length : Int) = 0
    · rw [if_pos c2]; exact ht _
    rw [if_neg c2]
    by_cases c3 : a < 1
    · rw [if_pos c3]; exact ht _
    rw [if_neg c3]
    by_cases c4 : a > 32
    · rw [show decide (a > 32) = true from decide_eq_true c4]; exact ht _
    rw [show decide (a > 32) = false from decide_eq_false c4]
    obtain ⟨wd, rfl⟩ : ∃ wd : Nat, a = (wd : Int) := ⟨a.toNat, by omega⟩
    simp only [laws_FnJoinFixed.j1, Bool.false_eq_true, if_false]
    have := join_loop l wd (by omega) (by omega) (by omega) (hbt cb) K 0 (Nat.zero_le _) (by omega) (by simp)
    simpa [joinB] using this
  · rw [if_neg cb]
end Go.Proofs.Ytgccaabpckfhlaa.Q
