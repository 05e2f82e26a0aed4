/- Several texts of ours in one: Sk, Sl, Sm, Sn, So, Ta, Tb, Tc, Td, Te. -/
import Derived.Test.YtndbeeboehekaaaGreatDoorMA
/- What a builder holds: bits and bytes, plainly. -/
namespace Go.Proofs.YtndbeeboehekaaaGreatDoor.Q
open Go.RowKit Go.Proofs.YtndbeeboehekaaaGreatDoorW.PrintWords Go.Proofs.YtndbeeboehekaaaGreatDoorW.PrintLast Go.Proofs.YtndbeeboehekaaaGreatDoorW.PrintMore
set_option linter.unusedVariables false
set_option linter.unusedSimpArgs false
/-- A bit of a byte, set or not. -/
def bitTo (x : Int) (r : Nat) (v : Bool) : Int := if v then bits .or .u8 x ((2 ^ r : Nat) : Int) else bits .and .u8 x (255 - ((2 ^ r : Nat) : Int))
def bitAt (bs : List Int) (p : Nat) : Bool := (bs.getD (p / 8) 0).toNat / 2 ^ (p % 8) % 2 == 1
def BytesOk (bs : List Int) : Prop := ∀ x ∈ bs, 0 ≤ x ∧ x ≤ 255
theorem bits_all : (List.range 256).all (fun x => (List.range 8).all fun r => [true, false].all fun v => (0 ≤ bitTo x r v && bitTo x r v ≤ 255) && (List.range 8).all fun r' => ((bitTo x r v).toNat / 2 ^ r' % 2 == 1) == (if r' = r then v else (x / 2 ^ r' % 2 == 1))) = true := by decide +kernel
theorem bit_one (x : Int) (hx : 0 ≤ x ∧ x ≤ 255) (r : Nat) (hr : r < 8) (v : Bool) : (0 ≤ bitTo x r v ∧ bitTo x r v ≤ 255) ∧ ∀ r', r' < 8 → ((bitTo x r v).toNat / 2 ^ r' % 2 == 1) = (if r' = r then v else (x.toNat / 2 ^ r' % 2 == 1)) := by
  obtain ⟨n, rfl⟩ := Int.eq_ofNat_of_zero_le hx.1
  have h := List.all_eq_true.1 bits_all n (List.mem_range.2 (by omega))
  have h := List.all_eq_true.1 h r (List.mem_range.2 hr)
  have h := List.all_eq_true.1 h v (by cases v <;> simp)
  rw [Bool.and_eq_true] at h
  refine ⟨by simpa using h.1, fun r' hr' => ?_⟩
  have h := List.all_eq_true.1 h.2 r' (List.mem_range.2 hr')
  simpa using h
theorem ok_set {bs : List Int} (h : BytesOk bs) (q : Nat) (x : Int) (hx : 0 ≤ x ∧ x ≤ 255) : BytesOk (bs.set q x) := fun y hy => by
  rcases List.mem_or_eq_of_mem_set hy with h1 | rfl
  · exact h y h1
  · exact hx
theorem ok_at {bs : List Int} (h : BytesOk bs) (q : Nat) : 0 ≤ bs.getD q 0 ∧ bs.getD q 0 ≤ 255 := by
  by_cases hq : q < bs.length
  · rw [List.getD_eq_getElem?_getD, List.getElem?_eq_getElem hq]
    exact h _ (List.getElem_mem hq)
  · rw [List.getD_eq_getElem?_getD, List.getElem?_eq_none (by omega)]
    simp
theorem bitAt_set (bs : List Int) (h : BytesOk bs) (q r : Nat) (hr : r < 8) (v : Bool) (hq : q < bs.length) (p : Nat) : bitAt (bs.set q (bitTo (bs.getD q 0) r v)) p = if p = 8 * q + r then v else bitAt bs p := by
  unfold bitAt
  by_cases hp : p / 8 = q
  · have hb := (bit_one (bs.getD q 0) (ok_at h q) r hr v).2 (p % 8) (Nat.mod_lt _ (by omega))
    rw [hp, show (bs.set q (bitTo (bs.getD q 0) r v)).getD q 0 = bitTo (bs.getD q 0) r v by rw [List.getD_eq_getElem?_getD, List.getElem?_set_self hq]; rfl, hb]
    by_cases h2 : p % 8 = r
    · rw [if_pos h2, if_pos (by omega)]
    · rw [if_neg h2, if_neg (by omega)]
  · rw [if_neg (by omega)]
    simp only [List.getD_eq_getElem?_getD]
    rw [List.getElem?_set_ne (by omega)]
abbrev Ent := Bool × List Int
def nulN (xs : List Ent) : Nat := (xs.filter (fun x => !x.1)).length
structure Inv (xs : List Ent) (nulls C m : Nat) (bm vl : List Int) : Prop where
  l3 : ∀ x ∈ xs, x.2.length = 3
  cap : (C = 2 ∧ m = 1) ∨ (C = 32 ∧ m = 4) ∨ (C = 64 ∧ m = 8) ∨ (C = 128 ∧ m = 16)
  le : xs.length ≤ C
  bl : bm.length = 64
  ok : BytesOk bm
  bits : ∀ p, bitAt bm p = (xs.getD p (false, [])).1
  vlen : vl.length = R64 (3 * C)
  vals : vl.take (3 * xs.length) = xs.flatMap (·.2)
  nl : nulls = nulN xs
theorem flat3 (xs : List Ent) (h : ∀ x ∈ xs, x.2.length = 3) : (xs.flatMap (·.2)).length = 3 * xs.length := by
  induction xs with
  | nil => simp
  | cons x t ih =>
    rw [List.flatMap_cons, List.length_append, h x (List.mem_cons_self), ih (fun y hy => h y (List.mem_cons_of_mem _ hy)), List.length_cons]
    omega
theorem zero_bit (n p : Nat) : bitAt (List.replicate n 0) p = false := by
  have e : (List.replicate n (0 : Int)).getD (p / 8) 0 = 0 := by
    rw [List.getD_eq_getElem?_getD, List.getElem?_replicate]; split <;> rfl
  unfold bitAt
  rw [e]
  simp
theorem Inv.nil : Inv [] 0 2 1 (List.replicate 64 0) (List.replicate 64 0) :=
  ⟨by simp, .inl ⟨rfl, rfl⟩, by simp, by simp, fun x hx => by rw [List.mem_replicate] at hx; omega, fun p => by rw [zero_bit]; simp, by decide, by simp, rfl⟩
theorem Inv.len {xs : List Ent} {nulls C m : Nat} {bm vl : List Int} (h : Inv xs nulls C m bm vl) : 0 < vl.length ∧ vl.length ≤ 1000 ∧ 3 * C ≤ vl.length ∧ C ≤ 8 * 16 ∧ C ≤ 8 * m ∧ m ≤ 16 := by
  rw [h.vlen]
  rcases h.cap with ⟨rfl, rfl⟩ | ⟨rfl, rfl⟩ | ⟨rfl, rfl⟩ | ⟨rfl, rfl⟩ <;> decide
theorem fillS_getD (l : List Int) (o n : Nat) (v : Int) (i : Nat) (h : o + n ≤ l.length) : (fillS l o n v).getD i 0 = if o ≤ i ∧ i < o + n then v else l.getD i 0 := by
  unfold fillS
  simp only [List.getD_eq_getElem?_getD]
  by_cases c1 : i < o
  · rw [if_neg (by omega), List.append_assoc, List.getElem?_append_left (by simp; omega), List.getElem?_take_of_lt c1]
  · by_cases c2 : i < o + n
    · rw [if_pos (by omega), List.getElem?_append_left (by simp; omega), List.getElem?_append_right (by simp; omega), List.getElem?_replicate, if_pos (by simp; omega)]
      rfl
    · rw [if_neg (by omega), List.getElem?_append_right (by simp; omega), List.getElem?_drop]
      congr 2
      simp
      omega
theorem Up.of {xs : List Ent} {nulls C m : Nat} {bm vl : List Int} (h : Inv xs nulls C m bm vl) (hk : xs.length = C) (hl : xs.length < 100) : ∃ C2 m2, Up C C2 m2 ∧ m < m2 := by
  rcases h.cap with ⟨rfl, rfl⟩ | ⟨rfl, rfl⟩ | ⟨rfl, rfl⟩ | ⟨rfl, rfl⟩
  · exact ⟨32, 4, .a, by omega⟩
  · exact ⟨64, 8, .b, by omega⟩
  · exact ⟨128, 16, .c, by omega⟩
  · omega
theorem Inv.grow {xs : List Ent} {nulls C m C2 m2 : Nat} {bm vl : List Int} (h : Inv xs nulls C m bm vl) (hu : Up C C2 m2) : Inv xs nulls C2 m2 (fillS bm m (64 - m) 0) (growB (3 * C2) vl) := by
  have hL := h.len
  have hC : C < C2 := by cases hu <;> omega
  have hgr := growB_len (3 * C2) vl
  refine ⟨h.l3, by cases hu <;> simp, by have := h.le; omega, by rw [fillS_len _ _ _ _ (by have := h.bl; omega)]; exact h.bl, fun x hx => ?_, fun p => ?_, ?_, ?_, h.nl⟩
  · obtain ⟨i, hi, rfl⟩ := List.getElem_of_mem hx
    have e : (fillS bm m (64 - m) 0)[i] = (fillS bm m (64 - m) 0).getD i 0 := by simp [hi]
    rw [e, fillS_getD _ _ _ _ _ (by have := h.bl; omega)]
    split
    · omega
    · exact ok_at h.ok i
  · have hb := h.bits p
    rw [← hb]
    unfold bitAt
    rw [fillS_getD _ _ _ _ _ (by have := h.bl; omega)]
    split
    · rename_i c
      have hz : bitAt bm p = false := by
        rw [hb, List.getD_eq_getElem?_getD, List.getElem?_eq_none (by have := h.le; omega)]; rfl
      unfold bitAt at hz
      rw [hz]
      simp
    · rfl
  · rw [hgr]
    have hv := h.vlen
    rcases h.cap with ⟨rfl, rfl⟩ | ⟨rfl, rfl⟩ | ⟨rfl, rfl⟩ | ⟨rfl, rfl⟩ <;> cases hu <;> rw [hv] <;> decide
  · have : (growB (3 * C2) vl).take (3 * xs.length) = vl.take (3 * xs.length) := by
      unfold growB
      split
      · rfl
      · exact List.take_append_of_le_length (by have := h.le; omega)
    rw [this, h.vals]
theorem take_put3 (vl v : List Int) (n : Nat) (hv : v.length = 3) (h : n + 3 ≤ vl.length) : (put3 vl n v).take (n + 3) = vl.take n ++ v := by
  unfold put3
  have e : (vl.take n ++ v).length = n + 3 := by simp; omega
  rw [List.take_append_of_le_length (by omega), List.take_of_length_le (by omega)]
theorem getD_snoc {xs : List Ent} (x : Ent) (p : Nat) : ((xs ++ [x]).getD p (false, [])).1 = if p = xs.length then x.1 else (xs.getD p (false, [])).1 := by
  simp only [List.getD_eq_getElem?_getD]
  by_cases c : p < xs.length
  · rw [if_neg (by omega), List.getElem?_append_left c]
  · by_cases c2 : p = xs.length
    · rw [if_pos c2, c2, List.getElem?_append_right (Nat.le_refl _)]; simp
    · rw [if_neg c2, List.getElem?_eq_none (by simp; omega), List.getElem?_eq_none (by omega)]
theorem Inv.push_true {xs : List Ent} {nulls C m : Nat} {bm vl v : List Int} (h : Inv xs nulls C m bm vl) (hk : xs.length < C) (hv : v.length = 3) : Inv (xs ++ [(true, v)]) nulls C m (bm.set (xs.length / 8) (bitOr (bm.getD (xs.length / 8) 0) (xs.length % 8))) (put3 vl (3 * xs.length) v) := by
  have hL := h.len
  have hbo : bitOr (bm.getD (xs.length / 8) 0) (xs.length % 8) = bitTo (bm.getD (xs.length / 8) 0) (xs.length % 8) true := rfl
  rw [hbo]
  refine ⟨fun x hx => ?_, h.cap, by simp; omega, by simp [h.bl], ok_set h.ok _ _ (bit_one _ (ok_at h.ok _) _ (Nat.mod_lt _ (by omega)) true).1, fun p => ?_, by rw [put3_len _ _ _ hv (by omega)]; exact h.vlen, ?_, ?_⟩
  · rcases List.mem_append.1 hx with hx | hx
    · exact h.l3 x hx
    · simp at hx; subst hx; exact hv
  · rw [bitAt_set bm h.ok _ _ (Nat.mod_lt _ (by omega)) true (by rw [h.bl]; omega), getD_snoc, h.bits]
    have e : 8 * (xs.length / 8) + xs.length % 8 = xs.length := by omega
    rw [e]
  · rw [List.length_append, List.length_singleton, Nat.mul_add, Nat.mul_one, take_put3 vl v _ hv (by omega), h.vals, List.flatMap_append]
    simp
  · rw [h.nl]; simp [nulN, List.filter_append]
theorem take_fill3 (vl : List Int) (n : Nat) (h : n + 3 ≤ vl.length) : (fillS vl n 3 0).take (n + 3) = vl.take n ++ [0, 0, 0] := take_put3 vl [0, 0, 0] n rfl h
theorem Inv.push_false {xs : List Ent} {nulls C m : Nat} {bm vl : List Int} (h : Inv xs nulls C m bm vl) (hk : xs.length < C) : Inv (xs ++ [(false, [0, 0, 0])]) (nulls + 1) C m bm (fillS vl (3 * xs.length) 3 0) := by
  have hL := h.len
  refine ⟨fun x hx => ?_, h.cap, by simp; omega, h.bl, h.ok, fun p => ?_, by rw [fillS_len _ _ _ _ (by omega)]; exact h.vlen, ?_, ?_⟩
  · rcases List.mem_append.1 hx with hx | hx
    · exact h.l3 x hx
    · simp at hx; subst hx; rfl
  · rw [getD_snoc, h.bits]
    split
    · rename_i e
      rw [e, List.getD_eq_getElem?_getD, List.getElem?_eq_none (Nat.le_refl _)]; rfl
    · rfl
  · rw [List.length_append, List.length_singleton, Nat.mul_add, Nat.mul_one, take_fill3 vl _ (by omega), h.vals, List.flatMap_append]
    simp
  · rw [h.nl]; simp [nulN, List.filter_append]
end Go.Proofs.YtndbeeboehekaaaGreatDoor.Q

/- A builder and what it holds: a value, a null, appended. -/
namespace Go.Proofs.YtndbeeboehekaaaGreatDoor.Q
open Go.RowKit Go.Proofs.YtndbeeboehekaaaGreatDoorW.PrintWords Go.Proofs.YtndbeeboehekaaaGreatDoorW.PrintLast Go.Proofs.YtndbeeboehekaaaGreatDoorW.PrintMore
set_option linter.unusedVariables false
set_option linter.unusedSimpArgs false
/-- A builder that has room for one more. -/
structure Room (w : World) (B0 b vb T : Nat) (xs : List Ent) (NB NR VB VR nulls C m : Nat) (bm vl : List Int) (q : Int) : Prop where
  bd : Bd w b vb T NB NR VB VR nulls xs.length C m bm vl q
  inv : Inv xs nulls C m bm vl
  lo : B0 ≤ NB ∧ B0 ≤ NR ∧ B0 ≤ VB ∧ B0 ≤ VR
/-- A builder and what it holds: its blocks lie from B0 on, ahead of U. -/
def St (w : World) (B0 U b vb T : Nat) (xs : List Ent) : Prop := (B0 ≤ b ∧ B0 ≤ vb ∧ B0 ≤ T) ∧ (b < U ∧ vb < U ∧ T < U) ∧ ((xs = [] ∧ Bd0 w b vb T) ∨ ∃ NB NR VB VR nulls C m bm vl q, Room w B0 b vb T xs NB NR VB VR nulls C m bm vl q ∧ NB < U ∧ NR < U ∧ VB < U ∧ VR < U)
/-- A call that turns the builder's blocks alone. -/
def Mv (w w' : World) (B0 U : Nat) : Prop := Tn (fun k => B0 ≤ k ∧ k < U) w w'
theorem mv_of {S : Nat → Prop} {w w' : World} {B0 U : Nat} (h : Tn S w w') (hs : ∀ k, S k → (B0 ≤ k ∧ k < U) ∨ w.heap.size ≤ k) : Mv w w' B0 U := (Tn.refl (fun k => B0 ≤ k ∧ k < U) w).then_ h hs
theorem rsv_st (B0 U b vb T : Nat) (xs : List Ent) (w : World) (hU : U ≤ w.heap.size) (hl : xs.length < 100) (h : St w B0 U b vb T xs) :
    Calls Tryz.prog 34 #[ptr b, .int .i64 1] w fun e w' => e = .returned (.tuple #[]) ∧ Mv w w' B0 U ∧ ∃ NB NR VB VR nulls C m bm vl q, Room w' B0 b vb T xs NB NR VB VR nulls C m bm vl q ∧ xs.length < C ∧ (NR < U ∨ w.heap.size ≤ NR) ∧ (VR < U ∨ w.heap.size ≤ VR) := by
  obtain ⟨⟨b1, b2, b3⟩, ⟨u1, u2, u3⟩, h⟩ := h
  rcases h with ⟨rfl, h⟩ | ⟨NB, NR, VB, VR, nulls, C, m, bm, vl, q, h, u4, u5, u6, u7⟩
  · refine (Rsv_first b vb T w h).mono ?_
    rintro e w' ⟨rfl, NB, NR, VB, VR, i1, i2, i3, i4, i5, i6⟩
    have hmv : Mv w w' B0 U := mv_of i2 (fun k hk => by
      rcases hk with e | e | e
      · exact .inl ⟨by omega, by omega⟩
      · exact .inl ⟨by omega, by omega⟩
      · exact .inr e)
    exact ⟨rfl, hmv, NB, NR, VB, VR, 0, 2, 1, _, _, 6, ⟨i1, Inv.nil, by omega⟩, by simp, .inr i4, .inr i6⟩
  · obtain ⟨bd, inv, lo⟩ := h
    by_cases c : xs.length < C
    · refine (Rsv_same b vb T NB NR VB VR nulls xs.length C m bm vl q c (by have := inv.len; omega) w bd).mono ?_
      rintro e w' ⟨rfl, n, rfl⟩
      exact ⟨rfl, (Tn.refl _ w).drewN n, NB, NR, VB, VR, nulls, C, m, bm, vl, q, ⟨bd.drewN n, inv, lo⟩, c, .inl u5, .inl u7⟩
    · have hk : xs.length = C := by have := inv.le; omega
      obtain ⟨C2, m2, hu, hmm⟩ := Up.of inv hk hl
      have hL := inv.len
      have hg := inv.grow hu
      have hC2' : C < C2 := by cases hu <;> omega
      rw [← hk] at hu bd
      have hC2 : xs.length < C2 := by omega
      refine (Rsv_grow b vb T NB NR VB VR nulls xs.length C2 m m2 bm vl q hu hmm inv.bl hL.1 hL.2.1 w bd).mono ?_
      rintro e w' ⟨rfl, NR2, VR2, i1, i2, i3, i4⟩
      have hmv : Mv w w' B0 U := mv_of i2 (fun k hk => by
        rcases hk with e | e | e | e | e | e | e
        · exact .inl ⟨by omega, by omega⟩
        · exact .inl ⟨by omega, by omega⟩
        · exact .inl ⟨by omega, by omega⟩
        · exact .inl ⟨by omega, by omega⟩
        · exact .inl ⟨by omega, by omega⟩
        · exact .inl ⟨by omega, by omega⟩
        · exact .inr e)
      have f1 : NR2 < U ∨ w.heap.size ≤ NR2 := by rcases i3 with e | e; exact .inl (by omega); exact .inr e
      have f2 : VR2 < U ∨ w.heap.size ≤ VR2 := by rcases i4 with e | e; exact .inl (by omega); exact .inr e
      exact ⟨rfl, hmv, NB, NR2, VB, VR2, nulls, C2, m2, _, _, _, ⟨i1, hg, by omega⟩, hC2, f1, f2⟩
theorem Room.st {w : World} {B0 U b vb T : Nat} {xs : List Ent} {NB NR VB VR nulls C m : Nat} {bm vl : List Int} {q : Int} (h : Room w B0 b vb T xs NB NR VB VR nulls C m bm vl q) (h0 : B0 ≤ b ∧ B0 ≤ vb ∧ B0 ≤ T) (hU : w.heap.size ≤ U) : St w B0 U b vb T xs :=
  ⟨h0, ⟨by have := blk_lt h.bd.hb; omega, by have := blk_lt h.bd.hv; omega, by have := blk_lt h.bd.hT; omega⟩, .inr ⟨NB, NR, VB, VR, nulls, C, m, bm, vl, q, h, by have := h.bd.hn.ltB; omega, by have := h.bd.hn.ltD; omega, by have := h.bd.hw.ltB; omega, by have := h.bd.hw.ltD; omega⟩⟩
set_option maxHeartbeats 2000000 in
set_option maxRecDepth 100000 in
theorem append_st (B0 U b vb T D cd : Nat) (xs : List Ent) (v : List Int) (w : World) (hU : U ≤ w.heap.size) (hl : xs.length < 100) (h : St w B0 U b vb T xs) (hd : Dat w D v) (hD : U ≤ D) (hG : GlobB w) (h2 : 2 < B0) :
    Calls Tryz.prog 20 #[ptr b, .slice (some ⟨D, 0, none⟩) 3 cd] w fun e w' => e = .returned (.tuple #[]) ∧ St w' B0 w'.heap.size b vb T (xs ++ [(true, v)]) ∧ Below B0 w w' := by
  have HR := Aside0.mk (rsv_st B0 U b vb T xs w hU hl h)
  obtain ⟨hlo, hhi, hh⟩ := h
  have hbT : w.heap[T]? = some tyO ∧ ∃ np nulls k c, w.heap[b]? = some (bO np nulls k c T vb) := by
    rcases hh with ⟨_, h⟩ | ⟨NB, NR, VB, VR, nulls, C, m, bm, vl, q, h, _⟩
    · exact ⟨h.hT, _, _, _, _, h.hb⟩
    · exact ⟨h.bd.hT, _, _, _, _, h.bd.hb⟩
  obtain ⟨hT, np, nl0, k0, c0', hb0⟩ := hbT
  have c6 : w.cell? ⟨b, 6, none⟩ = some (ptr T) := (blk_cell hb0 6).trans rfl
  have c0 : w.cell? ⟨T, 0, none⟩ = some (.int .i64 3) := (blk_cell hT 0).trans rfl
  have HD := Aside0.mk (And.intro hd (And.intro hD (And.intro hG (And.intro h2 (And.intro hlo (And.intro hhi (And.intro hl hU)))))))
  clear hh hT hb0 hd hD hG h2 hlo hhi hl hU
  go_enter Tryz.func20, Tryz.ntmps20
  go_upto_region 3 with (first | (go_at_call 34; refine HR.out.mono ?_; rintro e w1 ⟨rfl, r1, NB, NR, VB, VR, nulls, C, m, bm, vl, q, r2, r3, r4, r5⟩; have R := Aside0.mk (And.intro r1 (And.intro r2 (And.intro r3 (And.intro r4 r5)))); clear r1 r2 r3 r4 r5))
  obtain ⟨r1, r2, r3, r4, r5⟩ := R.out
  obtain ⟨hd, hD, hG, h2, hlo, hhi, hl, hU⟩ := HD.out
  have hDl := hd.lt
  have hL := r2.inv.len
  have hd1 : Dat w1 D v := hd.kept r1.kept (by rintro ⟨e1, e2⟩; omega)
  have hsz := tn_lt r1
  have c7 : w1.cell? ⟨b, 7, none⟩ = some (ptr vb) := (blk_cell r2.bd.hb 7).trans rfl
  have HA := Aside0.mk (bapp_calls vb VB VR D cd (3 * xs.length) vl v w1 r2.bd.hv r2.bd.hw.r (by omega) hL.2.1 hd1)
  have hG1 : GlobB w1 := hG.kept r1.kept (by rintro ⟨e1, e2⟩; omega)
  have HB := Aside0.mk (fun W (hb : W.heap[b]? = some (bO (ptr NB) nulls xs.length C T vb)) (hn : BufAt W NB 1 NR bm m) (hg : GlobB W) => abool_true b T vb NB NR nulls xs.length C m bm W hb hn (by rw [r2.inv.bl]; omega) (by omega) (by omega) hg)
  have hvn : vb ≠ NB := blk_ne r2.bd.hv r2.bd.hn.h (show (95 : Nat) ≠ 136 by decide)
  have hvr : vb ≠ NR := blk_ne r2.bd.hv r2.bd.hn.r (show (95 : Nat) ≠ 5 by decide)
  have hbv : b ≠ vb := blk_ne r2.bd.hb r2.bd.hv (show (89 : Nat) ≠ 95 by decide)
  have hbr : b ≠ VR := blk_ne r2.bd.hb r2.bd.hw.r (show (89 : Nat) ≠ 5 by decide)
  have hnv : NB ≠ VR := blk_ne r2.bd.hn.h r2.bd.hw.r (show (136 : Nat) ≠ 5 by decide)
  have h2b : (2 : Nat) ≠ vb ∧ (2 : Nat) ≠ VR := by have := r2.lo; omega
  have HK := Aside0.mk (fun W (ht : Tn (fun k => k = vb ∨ k = VR) w1 W) => And.intro (blk_kept r2.bd.hb ht.kept (by rintro (e | e); exact hbv e; exact hbr e)) (And.intro (r2.bd.hn.kept ht.kept (by rintro (e | e); exact hvn e.symm; exact hnv e) (by rintro (e | e); exact hvr e.symm; exact r2.bd.n2 e)) (hG1.kept ht.kept (by rintro (e | e); exact h2b.1 e; exact h2b.2 e))))
  clear r1 r2 r3 r4 r5 hd hD hG h2 hlo hhi hl hU hDl hL hd1 hsz hG1 hvn hvr hbv hbr hnv h2b
  go_wp2_with (first | (go_at_call 37; refine HA.out.mono ?_; rintro e w2 ⟨rfl, e1, e2, e3⟩; have k2 := HK.out w2 e3; have HB2 := Aside0.mk (HB.out w2 k2.1 k2.2.1 k2.2.2); have E := Aside0.mk (And.intro e1 (And.intro e2 (And.intro e3 k2))); clear e1 e2 e3 k2 HA) | (go_at_call 36; refine HB2.out.mono ?_; rintro e w3 ⟨rfl, f1, f2, f3⟩; have Fx := Aside0.mk (And.intro f1 (And.intro f2 f3)); clear f1 f2 f3 HB2))
  go_end0
  obtain ⟨r1, r2, r3, r4, r5⟩ := R.out
  obtain ⟨e1, e2, e3, k1, k2, k3⟩ := E.out
  obtain ⟨f1, f2, f3⟩ := Fx.out
  obtain ⟨hd, hD, hG, h2, hlo, hhi, hl, hU⟩ := HD.out
  have hbv : vb ≠ b := blk_ne r2.bd.hv r2.bd.hb (show (95 : Nat) ≠ 89 by decide)
  have hvr : vb ≠ NR := blk_ne r2.bd.hv r2.bd.hn.r (show (95 : Nat) ≠ 5 by decide)
  have hTb : T ≠ b := blk_ne r2.bd.hT r2.bd.hb (show (56 : Nat) ≠ 89 by decide)
  have hTv : T ≠ vb := blk_ne r2.bd.hT r2.bd.hv (show (56 : Nat) ≠ 95 by decide)
  have hTn : T ≠ NR := blk_ne r2.bd.hT r2.bd.hn.r (show (56 : Nat) ≠ 5 by decide)
  have hTr : T ≠ VR := blk_ne r2.bd.hT r2.bd.hw.r (show (56 : Nat) ≠ 5 by decide)
  have hVb : VB ≠ b := blk_ne r2.bd.hw.h r2.bd.hb (show (136 : Nat) ≠ 89 by decide)
  have hVv : VB ≠ vb := blk_ne r2.bd.hw.h r2.bd.hv (show (136 : Nat) ≠ 95 by decide)
  have hVn : VB ≠ NR := blk_ne r2.bd.hw.h r2.bd.hn.r (show (136 : Nat) ≠ 5 by decide)
  have hVr : VB ≠ VR := blk_ne r2.bd.hw.h r2.bd.hw.r (show (136 : Nat) ≠ 5 by decide)
  have hrb : VR ≠ b := blk_ne r2.bd.hw.r r2.bd.hb (show (5 : Nat) ≠ 89 by decide)
  have hL := r2.inv.len
  have hpl := put3_len vl (3 * xs.length) v hd.1 (by omega)
  have hlen : (xs ++ [((true, v) : Ent)]).length = xs.length + 1 := by simp
  have hroom : Room w3 B0 b vb T (xs ++ [(true, v)]) NB NR VB VR nulls C m (bm.set (xs.length / 8) (bitOr (bm.getD (xs.length / 8) 0) (xs.length % 8))) (put3 vl (3 * xs.length) v) q := by
    refine ⟨⟨by rw [hlen]; exact f1, ?_, ?_, f2, ?_, r2.bd.n1, r2.bd.n2⟩, r2.inv.push_true r3 hd.1, r2.lo⟩
    · rw [hlen, hpl]
      have := blk_kept e1 f3.kept (by rintro (e | e); exact hbv e; exact hvr e)
      rw [show 3 * (xs.length + 1) = 3 * xs.length + 3 by omega]
      exact this
    · exact blk_kept (blk_kept r2.bd.hT e3.kept (by rintro (e | e); exact hTv e; exact hTr e)) f3.kept (by rintro (e | e); exact hTb e; exact hTn e)
    · refine ⟨?_, e2.kept f3.kept (by rintro (e | e); exact hrb e; exact r2.bd.n2 e.symm)⟩
      rw [hpl]
      exact blk_kept (blk_kept r2.bd.hw.h e3.kept (by rintro (e | e); exact hVv e; exact hVr e)) f3.kept (by rintro (e | e); exact hVb e; exact hVn e)
  refine ⟨rfl, hroom.st hlo (Nat.le_refl _), ?_⟩
  have hlo2 := r2.lo
  have hs1 := tn_lt r1
  have hs2 := tn_lt e3
  have q1 : Below B0 w w1 := r1.below (by omega) (fun k hk => hk.1)
  have q2 : Below B0 w1 w2 := e3.below (by omega) (by rintro k (e | e) <;> omega)
  have q3 : Below B0 w2 w3 := f3.below (by omega) (by rintro k (e | e) <;> omega)
  exact q1.trans (q2.trans q3)
end Go.Proofs.YtndbeeboehekaaaGreatDoor.Q

/- A null, appended; what a builder hands out. -/
namespace Go.Proofs.YtndbeeboehekaaaGreatDoor.Q
open Go.RowKit Go.Proofs.YtndbeeboehekaaaGreatDoorW.PrintWords Go.Proofs.YtndbeeboehekaaaGreatDoorW.PrintLast Go.Proofs.YtndbeeboehekaaaGreatDoorW.PrintMore
set_option linter.unusedVariables false
set_option linter.unusedSimpArgs false
set_option maxHeartbeats 2000000 in
set_option maxRecDepth 100000 in
theorem null_st (B0 U b vb T : Nat) (xs : List Ent) (w : World) (hU : U ≤ w.heap.size) (hl : xs.length < 100) (h : St w B0 U b vb T xs) :
    Calls Tryz.prog 19 #[ptr b] w fun e w' => e = .returned (.tuple #[]) ∧ St w' B0 w'.heap.size b vb T (xs ++ [(false, [0, 0, 0])]) ∧ Below B0 w w' := by
  have HR := Aside0.mk (rsv_st B0 U b vb T xs w hU hl h)
  obtain ⟨hlo, hhi, hh⟩ := h
  have HD := Aside0.mk (And.intro hlo (And.intro hhi (And.intro hl hU)))
  clear hh hlo hhi hl hU
  go_enter Tryz.func19, Tryz.ntmps19
  go_upto_region 1 with (first | (go_at_call 34; refine HR.out.mono ?_; rintro e w1 ⟨rfl, r1, NB, NR, VB, VR, nulls, C, m, bm, vl, q, r2, r3, r4, r5⟩; have R := Aside0.mk (And.intro r1 (And.intro r2 (And.intro r3 (And.intro r4 r5)))); clear r1 r2 r3 r4 r5))
  obtain ⟨r1, r2, r3, r4, r5⟩ := R.out
  obtain ⟨hlo, hhi, hl, hU⟩ := HD.out
  have hL := r2.inv.len
  have hnn : nulls ≤ 1000 := by have := r2.inv.nl; have := List.length_filter_le (fun x : Ent => !x.1) xs; unfold nulN at *; omega
  have c7 : w1.cell? ⟨b, 7, none⟩ = some (ptr vb) := (blk_cell r2.bd.hb 7).trans rfl
  have c6 : w1.cell? ⟨b, 6, none⟩ = some (ptr T) := (blk_cell r2.bd.hb 6).trans rfl
  have c0 : w1.cell? ⟨T, 0, none⟩ = some (.int .i64 3) := (blk_cell r2.bd.hT 0).trans rfl
  have HA := Aside0.mk (adv_calls vb VB VR (3 * xs.length) vl w1.drew r2.bd.hv r2.bd.hw.r (by omega) hL.2.1)
  have HB := Aside0.mk (fun W (hb : W.heap[b]? = some (bO (ptr NB) nulls xs.length C T vb)) => abool_false b T vb NB nulls xs.length C W hb (by omega) hnn)
  have hbv : b ≠ vb := blk_ne r2.bd.hb r2.bd.hv (show (89 : Nat) ≠ 95 by decide)
  have hbr : b ≠ VR := blk_ne r2.bd.hb r2.bd.hw.r (show (89 : Nat) ≠ 5 by decide)
  have hTv : T ≠ vb := blk_ne r2.bd.hT r2.bd.hv (show (56 : Nat) ≠ 95 by decide)
  have hTr : T ≠ VR := blk_ne r2.bd.hT r2.bd.hw.r (show (56 : Nat) ≠ 5 by decide)
  have fb : ¬ (b = vb ∨ b = VR) := by rintro (e | e); exact hbv e; exact hbr e
  have fT : ¬ (T = vb ∨ T = VR) := by rintro (e | e); exact hTv e; exact hTr e
  have HK := Aside0.mk (fun W (ht : Tn (fun k => k = vb ∨ k = VR) w1 W) => blk_kept r2.bd.hb ht.kept fb)
  clear r1 r2 r3 r4 r5 hlo hhi hl hU hL hnn hbv hbr hTv hTr
  go_region_held3 (fun w' => w'.cell? ⟨b, 7, none⟩ = some (ptr vb) ∧ w'.cell? ⟨b, 6, none⟩ = some (ptr T) ∧ w'.cell? ⟨T, 0, none⟩ = some (.int .i64 3)) (go_keep) (first | (go_at_call 35; go_loud (refine HA.out.mono ?_; rintro e w2 ⟨rfl, e1, e2, e3⟩; have e3' : Tn (fun k => k = vb ∨ k = VR) w1 w2 := ⟨e3.os, e3.tape, e3.output, e3.kept⟩; have d7 := cell_kept c7 e3'.kept fb; have d6 := cell_kept c6 e3'.kept fb; have d0 := cell_kept c0 e3'.kept fT; have k1 := HK.out w2 e3'; have HB2 := Aside0.mk (HB.out w2 k1); have E := Aside0.mk (And.intro e1 (And.intro e2 (And.intro e3' k1))); clear e1 e2 e3 e3' k1)))
  go_wp2_with (first | (go_at_call 36; refine HB2.out.mono ?_; rintro e w3 ⟨rfl, f1, f3⟩; have Fx := Aside0.mk (And.intro f1 f3); clear f1 f3))
  go_end0
  obtain ⟨r1, r2, r3, r4, r5⟩ := R.out
  obtain ⟨e1, e2, e3, k1⟩ := E.out
  obtain ⟨f1, f3⟩ := Fx.out
  obtain ⟨hlo, hhi, hl, hU⟩ := HD.out
  have hbv : vb ≠ b := blk_ne r2.bd.hv r2.bd.hb (show (95 : Nat) ≠ 89 by decide)
  have hvn : vb ≠ NB := blk_ne r2.bd.hv r2.bd.hn.h (show (95 : Nat) ≠ 136 by decide)
  have hvr : vb ≠ NR := blk_ne r2.bd.hv r2.bd.hn.r (show (95 : Nat) ≠ 5 by decide)
  have hTb : T ≠ b := blk_ne r2.bd.hT r2.bd.hb (show (56 : Nat) ≠ 89 by decide)
  have hVb : VB ≠ b := blk_ne r2.bd.hw.h r2.bd.hb (show (136 : Nat) ≠ 89 by decide)
  have hVv : VB ≠ vb := blk_ne r2.bd.hw.h r2.bd.hv (show (136 : Nat) ≠ 95 by decide)
  have hVr : VB ≠ VR := blk_ne r2.bd.hw.h r2.bd.hw.r (show (136 : Nat) ≠ 5 by decide)
  have hrb : VR ≠ b := blk_ne r2.bd.hw.r r2.bd.hb (show (5 : Nat) ≠ 89 by decide)
  have hNb : NB ≠ b := blk_ne r2.bd.hn.h r2.bd.hb (show (136 : Nat) ≠ 89 by decide)
  have hNr : NB ≠ VR := blk_ne r2.bd.hn.h r2.bd.hw.r (show (136 : Nat) ≠ 5 by decide)
  have hRb : NR ≠ b := blk_ne r2.bd.hn.r r2.bd.hb (show (5 : Nat) ≠ 89 by decide)
  have hL := r2.inv.len
  have hpl : (fillS vl (3 * xs.length) 3 0).length = vl.length := fillS_len _ _ _ _ (by omega)
  have hlen : (xs ++ [((false, [0, 0, 0]) : Ent)]).length = xs.length + 1 := by simp
  have hroom : Room w3 B0 b vb T (xs ++ [(false, [0, 0, 0])]) NB NR VB VR (nulls + 1) C m bm (fillS vl (3 * xs.length) 3 0) q := by
    refine ⟨⟨by rw [hlen]; exact f1, ?_, ?_, ?_, ?_, r2.bd.n1, r2.bd.n2⟩, r2.inv.push_false r3, r2.lo⟩
    · rw [hlen, hpl]
      have := blk_kept e1 f3.kept hbv
      rw [show 3 * (xs.length + 1) = 3 * xs.length + 3 by omega]
      exact this
    · exact blk_kept (blk_kept r2.bd.hT e3.kept fT) f3.kept hTb
    · exact (r2.bd.hn.kept e3.kept (by rintro (e | e); exact hvn e.symm; exact hNr e) (by rintro (e | e); exact hvr e.symm; exact r2.bd.n2 e)).kept f3.kept hNb hRb
    · refine ⟨?_, e2.kept f3.kept hrb⟩
      rw [hpl]
      exact blk_kept (blk_kept r2.bd.hw.h e3.kept (by rintro (e | e); exact hVv e; exact hVr e)) f3.kept hVb
  refine ⟨rfl, hroom.st hlo (Nat.le_refl _), ?_⟩
  have hlo2 := r2.lo
  have hs1 := tn_lt r1
  have hs2 := tn_lt e3
  have q1 : Below B0 w w1 := r1.below (by omega) (fun k hk => hk.1)
  have q2 : Below B0 w1 w2 := e3.below (by omega) (by rintro k (e | e) <;> omega)
  have q3 : Below B0 w2 w3 := f3.below (by omega) (by rintro k e; omega)
  exact q1.trans (q2.trans q3)
end Go.Proofs.YtndbeeboehekaaaGreatDoor.Q

/- A bufferBuilder's Finish; a builder's reset; an array's data. -/
namespace Go.Proofs.YtndbeeboehekaaaGreatDoor.Q
open Go.RowKit Go.Proofs.YtndbeeboehekaaaGreatDoorW.PrintWords Go.Proofs.YtndbeeboehekaaaGreatDoorW.PrintLast Go.Proofs.YtndbeeboehekaaaGreatDoorW.PrintMore
set_option linter.unusedVariables false
set_option linter.unusedSimpArgs false
set_option maxHeartbeats 1000000 in
set_option maxRecDepth 100000 in
theorem Rs_calls (vb n c : Nat) (sl : Value) (w : World) (h : w.heap[vb]? = some (bbO (.pointer none) n c sl)) :
    Calls Tryz.prog 80 #[ptr vb] w fun e w' => e = .returned (.tuple #[]) ∧ w'.heap[vb]? = some (bbO (.pointer none) 0 0 (.slice none 0 0)) ∧ Tn (fun k => k = vb) w w' := by
  have c2 : w.cell? ⟨vb, 2, none⟩ = some (.pointer none) := (blk_cell h 2).trans rfl
  have c5 : w.cell? ⟨vb, 5, none⟩ = some sl := (blk_cell h 5).trans rfl
  have c4 : w.cell? ⟨vb, 4, none⟩ = some (.int .i64 (c : Int)) := (blk_cell h 4).trans rfl
  have c3 : w.cell? ⟨vb, 3, none⟩ = some (.int .i64 (n : Int)) := (blk_cell h 3).trans rfl
  have z0 : (w).frozen? ⟨vb, 2, none⟩ = false := blk_frozen h 2
  have s0 := blk_set h 2 (.pointer none)
  have z1 : (w.setCell ⟨vb, 2, none⟩ (.pointer none)).frozen? ⟨vb, 5, none⟩ = false := blk_frozen s0 5
  have s1 := blk_set s0 5 (.slice none 0 0)
  have z2 : ((w.setCell ⟨vb, 2, none⟩ (.pointer none)).setCell ⟨vb, 5, none⟩ (.slice none 0 0)).frozen? ⟨vb, 4, none⟩ = false := blk_frozen s1 4
  have s2 := blk_set s1 4 (.int .i64 0)
  have z3 : (((w.setCell ⟨vb, 2, none⟩ (.pointer none)).setCell ⟨vb, 5, none⟩ (.slice none 0 0)).setCell ⟨vb, 4, none⟩ (.int .i64 0)).frozen? ⟨vb, 3, none⟩ = false := blk_frozen s2 3
  have s3 := blk_set s2 3 (.int .i64 0)
  have HX := Aside0.mk s3
  clear h s0 s1 s2 s3
  go_enter Tryz.func80, Tryz.ntmps80
  go_wp2
  go_end0
  exact ⟨rfl, HX.out, ((((Tn.refl (fun k => k = vb) w).setCell (p := ⟨vb, 2, none⟩) (.inl rfl) _).setCell (p := ⟨vb, 5, none⟩) (.inl rfl) _).setCell (p := ⟨vb, 4, none⟩) (.inl rfl) _).setCell (p := ⟨vb, 3, none⟩) (.inl rfl) _⟩
set_option maxHeartbeats 1000000 in
set_option maxRecDepth 100000 in
theorem fin_none (vb : Nat) (sl : Value) (w : World) (h : w.heap[vb]? = some (bbO (.pointer none) 0 0 sl)) :
    Calls Tryz.prog 61 #[ptr vb] w fun e w' => ∃ X VB, e = .returned (ptr VB) ∧ w'.heap[vb]? = some (bbO (.pointer none) 0 0 (.slice none 0 0)) ∧ w'.heap[VB]? = some (bufN (.slice (some ⟨X, 0, none⟩) 0 0) 0) ∧ Tn (fun k => k = vb ∨ w.heap.size ≤ k) w w' ∧ w.heap.size ≤ X ∧ w.heap.size ≤ VB := by
  have c3 : w.cell? ⟨vb, 3, none⟩ = some (.int .i64 0) := (blk_cell h 3).trans rfl
  have c2 : w.cell? ⟨vb, 2, none⟩ = some (.pointer none) := (blk_cell h 2).trans rfl
  have z2 : w.frozen? ⟨vb, 2, none⟩ = false := blk_frozen h 2
  have s2 := blk_set h 2 (.pointer none)
  have HR := Aside0.mk (Rs_calls vb 0 0 sl _ s2)
  have HL := Aside0.mk (blk_lt h)
  clear h s2
  go_enter Tryz.func61, Tryz.ntmps61
  go_wp2_with (first | (go_at_call 80; refine HR.out.mono ?_; rintro e w1 ⟨rfl, r1, r2⟩; have R := Aside0.mk (And.intro r1 r2); clear r1 r2) | (go_at_call 81; refine (newbytes_calls _ _ _ _).mono ?_; rintro e w2 ⟨rfl, rfl⟩))
  go_ret
  obtain ⟨r1, r2⟩ := R.out
  have r3 : Tn (fun k => k = vb ∨ w.heap.size ≤ k) w w1 := ((Tn.refl (fun k => k = vb ∨ w.heap.size ≤ k) w).setCell (p := ⟨vb, 2, none⟩) (.inl (.inl rfl)) _).then_ r2 (fun k hk => .inl (.inl hk))
  have hs := tn_lt r3
  have hL := HL.out
  refine ⟨w1.heap.size, _, rfl, ?_, by simpa using blk_new (w1.alloc (.cells #[] 5)) (bufN (.slice (some ⟨w1.heap.size, 0, none⟩) 0 0) 0), (r3.alloc _).alloc _, hs, ?_⟩
  · exact blk_alloc (blk_alloc r1 _) _
  · exact Nat.le_succ_of_le hs
set_option maxHeartbeats 1000000 in
set_option maxRecDepth 100000 in
theorem fin_full (vb VB VR n : Nat) (vl : List Int) (q : Int) (w : World) (h : w.heap[vb]? = some (bbO (ptr VB) n vl.length (.slice (some ⟨VR, 0, none⟩) vl.length vl.length))) (hb : BufAt w VB 1 VR vl q) (hn : 0 < n) (hn2 : n ≤ vl.length) (hm : vl.length ≤ 1000) :
    Calls Tryz.prog 61 #[ptr vb] w fun e w' => e = .returned (ptr VB) ∧ ∃ VR', w'.heap[vb]? = some (bbO (.pointer none) 0 0 (.slice none 0 0)) ∧ BufAt w' VB 1 VR' vl n ∧ Tn (fun k => k = vb ∨ k = VB) w w' ∧ (VR' = VR ∨ w.heap.size ≤ VR') := by
  have c3 : w.cell? ⟨vb, 3, none⟩ = some (.int .i64 (n : Int)) := (blk_cell h 3).trans rfl
  have c2 : w.cell? ⟨vb, 2, none⟩ = some (ptr VB) := (blk_cell h 2).trans rfl
  have hvn : vb ≠ VB := blk_ne h hb.h (show (95 : Nat) ≠ 136 by decide)
  have hvr : vb ≠ VR := blk_ne h hb.r (show (95 : Nat) ≠ 5 by decide)
  have HS := Aside0.mk (fun d => Resize_ns VB VR n vl 1 q (by omega) (by omega) (w.drewN d) (by omega) ⟨blk_drewN hb.h d, blk_drewN hb.r d⟩)
  have hg : growB n vl = vl := by unfold growB; rw [if_pos hn2]
  rw [hg] at HS
  have HR := Aside0.mk (fun W (hW : W.heap[vb]? = some (bbO (.pointer none) n vl.length (.slice (some ⟨VR, 0, none⟩) vl.length vl.length))) => Rs_calls vb n _ _ W hW)
  have HX := Aside0.mk h
  have hd1 : decide ((n : Int) > 0) = true := decide_eq_true (by omega)
  have hd2 : decide (0 < (n : Int)) = true := decide_eq_true (by omega)
  have HL := Aside0.mk (blk_lt h)
  clear h hb hn2 hm hg hd1 hd2
  go_enter Tryz.func61, Tryz.ntmps61
  go_upto_region 2 with (fail)
  go_region_held3 (fun w' => w'.cell? ⟨vb, 2, none⟩ = some (ptr VB) ∧ w'.cell? ⟨vb, 3, none⟩ = some (.int .i64 (n : Int))) (go_keep) (first | (go_at_call 76; go_loud (refine (HS.out 1).mono ?_; rintro e w1 ⟨rfl, VR', e1, e2, e3⟩; have e3' : Tn (fun k => k = VB) w w1 := ⟨e3.os, e3.tape, e3.output, e3.kept⟩; have d3 := cell_kept c3 e3'.kept (by simpa using hvn); have d2 := cell_kept c2 e3'.kept (by simpa using hvn); have k1 := blk_kept HX.out e3'.kept hvn; have z2 := blk_frozen k1 2; have HR2 := Aside0.mk (HR.out _ (blk_set k1 2 (.pointer none))); have E := Aside0.mk (And.intro e1 (And.intro e2 (And.intro e3' k1))); clear e1 e2 e3 e3' k1)))
  go_wp2_with (first | (go_at_call 80; refine HR2.out.mono ?_; rintro e w2 ⟨rfl, r1, r2⟩; have R := Aside0.mk (And.intro r1 r2); clear r1 r2))
  go_ret
  obtain ⟨r1, r2⟩ := R.out
  obtain ⟨e1, e2, e3, k1⟩ := E.out
  have hvn2 : VB ≠ vb := fun e => hvn e.symm
  have hvr2 : VR' ≠ vb := blk_ne e2.r k1 (show (5 : Nat) ≠ 95 by decide)
  have e2' : BufAt (w1.setCell ⟨vb, 2, none⟩ (.pointer none)) VB 1 VR' vl n := ⟨blk_far e2.h (p := ⟨vb, 2, none⟩) hvn2 _, blk_far e2.r (p := ⟨vb, 2, none⟩) hvr2 _⟩
  have hL := HL.out
  refine ⟨rfl, VR', r1, e2'.kept r2.kept hvn2 hvr2, ?_, e1⟩
  exact ((e3.mono (fun k hk => .inr hk)).setCell (p := ⟨vb, 2, none⟩) (.inl (.inl rfl)) _).then_ r2 (fun k hk => .inl (.inl hk))
set_option maxHeartbeats 1000000 in
set_option maxRecDepth 100000 in
theorem brs_none (b T vb nulls k c : Nat) (w : World) (h : w.heap[b]? = some (bO (.pointer none) nulls k c T vb)) :
    Calls Tryz.prog 64 #[ptr b] w fun e w' => e = .returned (.tuple #[]) ∧ w'.heap[b]? = some (bO (.pointer none) 0 0 0 T vb) ∧ Tn (fun k => k = b) w w' := by
  have c2 : w.cell? ⟨b, 2, none⟩ = some (.pointer none) := (blk_cell h 2).trans rfl
  have c3 : w.cell? ⟨b, 3, none⟩ = some (.int .i64 (nulls : Int)) := (blk_cell h 3).trans rfl
  have c4 : w.cell? ⟨b, 4, none⟩ = some (.int .i64 (k : Int)) := (blk_cell h 4).trans rfl
  have c5 : w.cell? ⟨b, 5, none⟩ = some (.int .i64 (c : Int)) := (blk_cell h 5).trans rfl
  have z0 : (w).frozen? ⟨b, 3, none⟩ = false := blk_frozen h 3
  have s0 := blk_set h 3 (.int .i64 0)
  have z1 : (w.setCell ⟨b, 3, none⟩ (.int .i64 0)).frozen? ⟨b, 4, none⟩ = false := blk_frozen s0 4
  have s1 := blk_set s0 4 (.int .i64 0)
  have z2 : ((w.setCell ⟨b, 3, none⟩ (.int .i64 0)).setCell ⟨b, 4, none⟩ (.int .i64 0)).frozen? ⟨b, 5, none⟩ = false := blk_frozen s1 5
  have s2 := blk_set s1 5 (.int .i64 0)
  have HX := Aside0.mk s2
  clear h s0 s1 s2
  go_enter Tryz.func64, Tryz.ntmps64
  go_wp2
  go_end0
  exact ⟨rfl, HX.out, (((Tn.refl (fun k => k = b) w).setCell (p := ⟨b, 3, none⟩) (.inl rfl) _).setCell (p := ⟨b, 4, none⟩) (.inl rfl) _).setCell (p := ⟨b, 5, none⟩) (.inl rfl) _⟩
set_option maxHeartbeats 1000000 in
set_option maxRecDepth 100000 in
theorem brs_full (b T vb NB nulls k c : Nat) (sl : Value) (q : Int) (w : World) (h : w.heap[b]? = some (bO (ptr NB) nulls k c T vb)) (hb : w.heap[NB]? = some (bufH 2 sl q)) :
    Calls Tryz.prog 64 #[ptr b] w fun e w' => e = .returned (.tuple #[]) ∧ w'.heap[b]? = some (bO (.pointer none) 0 0 0 T vb) ∧ w'.heap[NB]? = some (bufH 1 sl q) ∧ Tn (fun k => k = b ∨ k = NB) w w' := by
  have c2 : w.cell? ⟨b, 2, none⟩ = some (ptr NB) := (blk_cell h 2).trans rfl
  have hbn : b ≠ NB := blk_ne h hb (show (89 : Nat) ≠ 136 by decide)
  have HR := Aside0.mk (release_calls NB sl 2 1 q (by decide) (by decide) (by decide) w hb)
  have HX := Aside0.mk h
  clear h hb
  go_enter Tryz.func64, Tryz.ntmps64
  go_wp2_with (first | (go_at_call 63; refine HR.out.mono ?_; rintro e w1 ⟨rfl, r1, r2⟩; have k1 := blk_kept HX.out r2.kept hbn; have y2 : w1.cell? ⟨b, 2, none⟩ = some (ptr NB) := (blk_cell k1 2).trans rfl; have y3 : w1.cell? ⟨b, 3, none⟩ = some (.int .i64 (nulls : Int)) := (blk_cell k1 3).trans rfl; have y4 : w1.cell? ⟨b, 4, none⟩ = some (.int .i64 (k : Int)) := (blk_cell k1 4).trans rfl; have y5 : w1.cell? ⟨b, 5, none⟩ = some (.int .i64 (c : Int)) := (blk_cell k1 5).trans rfl; have z0 : (w1).frozen? ⟨b, 2, none⟩ = false := blk_frozen k1 2; have s0 := blk_set k1 2 (.pointer none); have z1 : (w1.setCell ⟨b, 2, none⟩ (.pointer none)).frozen? ⟨b, 3, none⟩ = false := blk_frozen s0 3; have s1 := blk_set s0 3 (.int .i64 0); have z2 : ((w1.setCell ⟨b, 2, none⟩ (.pointer none)).setCell ⟨b, 3, none⟩ (.int .i64 0)).frozen? ⟨b, 4, none⟩ = false := blk_frozen s1 4; have s2 := blk_set s1 4 (.int .i64 0); have z3 : (((w1.setCell ⟨b, 2, none⟩ (.pointer none)).setCell ⟨b, 3, none⟩ (.int .i64 0)).setCell ⟨b, 4, none⟩ (.int .i64 0)).frozen? ⟨b, 5, none⟩ = false := blk_frozen s2 5; have s3 := blk_set s2 5 (.int .i64 0); have Y := Aside0.mk s3; have R := Aside0.mk (And.intro r1 r2); clear r1 r2 k1 s0 s1 s2 s3))
  go_end0
  obtain ⟨r1, r2⟩ := R.out
  have hnb : NB ≠ b := fun e => hbn e.symm
  refine ⟨rfl, Y.out, blk_far (blk_far (blk_far (blk_far r1 (p := ⟨b, 2, none⟩) hnb _) (p := ⟨b, 3, none⟩) hnb _) (p := ⟨b, 4, none⟩) hnb _) (p := ⟨b, 5, none⟩) hnb _, ?_⟩
  exact ((((r2.mono (fun k hk => .inr hk)).setCell (p := ⟨b, 2, none⟩) (.inl (.inl rfl)) _).setCell (p := ⟨b, 3, none⟩) (.inl (.inl rfl)) _).setCell (p := ⟨b, 4, none⟩) (.inl (.inl rfl)) _).setCell (p := ⟨b, 5, none⟩) (.inl (.inl rfl)) _
end Go.Proofs.YtndbeeboehekaaaGreatDoor.Q

/- array.Data: NewData, Retain, Release, what it tells. -/
namespace Go.Proofs.YtndbeeboehekaaaGreatDoor.Q
open Go.RowKit Go.Proofs.YtndbeeboehekaaaGreatDoorW.PrintWords Go.Proofs.YtndbeeboehekaaaGreatDoorW.PrintLast Go.Proofs.YtndbeeboehekaaaGreatDoorW.PrintMore
set_option linter.unusedVariables false
set_option linter.unusedSimpArgs false
/-- An array's data. -/
def dataO (rc : Int) (T : Nat) (nulls off len : Int) (sb : Nat) : Obj := .cells #[.int .i64 rc, .iface 54 (.pointer (some ⟨T, 0, none⟩)), .int .i64 nulls, .int .i64 off, .int .i64 len, .slice (some ⟨sb, 0, none⟩) 2 2, .slice none 0 0, .pointer none] 108 (0, 0)
/-- Its two buffers. -/
def bsO (p q : Value) : Obj := .cells #[p, q] 83 (0, 0)
set_option maxHeartbeats 1000000 in
set_option maxRecDepth 100000 in
theorem dret_calls (D T sb : Nat) (r t nulls off len : Int) (ht : IntKind.i64.wrap (r + 1) = t) (w : World) (h : w.heap[D]? = some (dataO r T nulls off len sb)) :
    Calls Tryz.prog 40 #[ptr D] w fun e w' => e = .returned (.tuple #[]) ∧ w'.heap[D]? = some (dataO t T nulls off len sb) ∧ Tn (fun k => k = D) w w' := by
  have HC := Aside0.mk (add_calls ⟨D, 0, none⟩ r 1 t ht w ((blk_cell h 0).trans rfl) (blk_frozen h 0))
  have HB := Aside0.mk h
  clear h ht
  go_enter Tryz.func40, Tryz.ntmps40
  go_wp2_with (first | (go_at_call 33; refine HC.out.mono ?_; rintro e w1 ⟨rfl, rfl⟩))
  go_end0
  exact ⟨rfl, blk_set HB.out 0 (.int .i64 t), (Tn.refl (fun k => k = D) w).setCell (p := ⟨D, 0, none⟩) (.inl rfl) _⟩
set_option maxHeartbeats 1000000 in
set_option maxRecDepth 100000 in
theorem drel_calls (D T sb : Nat) (r t nulls off len : Int) (ht : IntKind.i64.wrap (r + -1) = t) (h1 : 0 < r) (h2 : t ≠ 0) (w : World) (h : w.heap[D]? = some (dataO r T nulls off len sb)) :
    Calls Tryz.prog 42 #[ptr D] w fun e w' => e = .returned (.tuple #[]) ∧ w'.heap[D]? = some (dataO t T nulls off len sb) ∧ Tn (fun k => k = D) w w' := by
  have HC := Aside0.mk (add_calls ⟨D, 0, none⟩ r (-1) t ht w ((blk_cell h 0).trans rfl) (blk_frozen h 0))
  have HD := Aside0.mk (load_calls ⟨D, 0, none⟩ r w ((blk_cell h 0).trans rfl))
  have HB := Aside0.mk h
  have hd : decide (r > 0) = true := decide_eq_true h1
  have hd2 : decide (0 < r) = true := decide_eq_true h1
  have he : (t == 0) = false := by simpa using h2
  clear h ht
  go_enter Tryz.func42, Tryz.ntmps42
  go_wp2_with (first | (go_at_call 66; refine HD.out.mono ?_; rintro e w1 ⟨rfl, hw1⟩; subst w1) | (go_at_call 65; refine (assert_calls _ _).mono ?_; rintro e w1 ⟨rfl, hw1⟩; subst w1) | (go_at_call 33; refine HC.out.mono ?_; rintro e w1 ⟨rfl, rfl⟩))
  go_end0
  exact ⟨rfl, blk_set HB.out 0 (.int .i64 t), (Tn.refl (fun k => k = D) w).setCell (p := ⟨D, 0, none⟩) (.inl rfl) _⟩
set_option maxHeartbeats 1000000 in
set_option maxRecDepth 100000 in
theorem dty_calls (D T sb : Nat) (r nulls off len : Int) (w : World) (h : w.heap[D]? = some (dataO r T nulls off len sb)) :
    Calls Tryz.prog 145 #[ptr D] w fun e w' => e = .returned (.iface 54 (.pointer (some ⟨T, 0, none⟩))) ∧ w' = w := by
  have c1 : w.cell? ⟨D, 1, none⟩ = some (.iface 54 (.pointer (some ⟨T, 0, none⟩))) := (blk_cell h 1).trans rfl
  clear h
  go_enter Tryz.func145, Tryz.ntmps145
  go_wp2
  go_ret
  exact ⟨rfl, rfl⟩
set_option maxHeartbeats 1000000 in
set_option maxRecDepth 100000 in
theorem dnul_calls (D T sb : Nat) (r nulls off len : Int) (w : World) (h : w.heap[D]? = some (dataO r T nulls off len sb)) :
    Calls Tryz.prog 148 #[ptr D] w fun e w' => e = .returned (.int .i64 nulls) ∧ w' = w := by
  have c1 : w.cell? ⟨D, 2, none⟩ = some (.int .i64 nulls) := (blk_cell h 2).trans rfl
  clear h
  go_enter Tryz.func148, Tryz.ntmps148
  go_wp2
  go_ret
  exact ⟨rfl, rfl⟩
set_option maxHeartbeats 1000000 in
set_option maxRecDepth 100000 in
theorem doff_calls (D T sb : Nat) (r nulls off len : Int) (w : World) (h : w.heap[D]? = some (dataO r T nulls off len sb)) :
    Calls Tryz.prog 132 #[ptr D] w fun e w' => e = .returned (.int .i64 off) ∧ w' = w := by
  have c1 : w.cell? ⟨D, 3, none⟩ = some (.int .i64 off) := (blk_cell h 3).trans rfl
  clear h
  go_enter Tryz.func132, Tryz.ntmps132
  go_wp2
  go_ret
  exact ⟨rfl, rfl⟩
set_option maxHeartbeats 1000000 in
set_option maxRecDepth 100000 in
theorem dlen_calls (D T sb : Nat) (r nulls off len : Int) (w : World) (h : w.heap[D]? = some (dataO r T nulls off len sb)) :
    Calls Tryz.prog 147 #[ptr D] w fun e w' => e = .returned (.int .i64 len) ∧ w' = w := by
  have c1 : w.cell? ⟨D, 4, none⟩ = some (.int .i64 len) := (blk_cell h 4).trans rfl
  clear h
  go_enter Tryz.func147, Tryz.ntmps147
  go_wp2
  go_ret
  exact ⟨rfl, rfl⟩
set_option maxHeartbeats 1000000 in
set_option maxRecDepth 100000 in
theorem dbuf_calls (D T sb : Nat) (r nulls off len : Int) (w : World) (h : w.heap[D]? = some (dataO r T nulls off len sb)) :
    Calls Tryz.prog 143 #[ptr D] w fun e w' => e = .returned (.slice (some ⟨sb, 0, none⟩) 2 2) ∧ w' = w := by
  have c1 : w.cell? ⟨D, 5, none⟩ = some (.slice (some ⟨sb, 0, none⟩) 2 2) := (blk_cell h 5).trans rfl
  clear h
  go_enter Tryz.func143, Tryz.ntmps143
  go_wp2
  go_ret
  exact ⟨rfl, rfl⟩
set_option maxHeartbeats 1000000 in
set_option maxRecDepth 100000 in
theorem dchi_calls (D T sb : Nat) (r nulls off len : Int) (w : World) (h : w.heap[D]? = some (dataO r T nulls off len sb)) :
    Calls Tryz.prog 144 #[ptr D] w fun e w' => e = .returned (.slice none 0 0) ∧ w' = w := by
  have c1 : w.cell? ⟨D, 6, none⟩ = some (.slice none 0 0) := (blk_cell h 6).trans rfl
  clear h
  go_enter Tryz.func144, Tryz.ntmps144
  go_wp2
  go_ret
  exact ⟨rfl, rfl⟩
set_option maxHeartbeats 1000000 in
set_option maxRecDepth 100000 in
theorem width_calls (T : Nat) (w : World) (h : w.heap[T]? = some tyO) : Calls Tryz.prog 142 #[ptr T] w fun e w' => e = .returned (.int .i64 24) ∧ w' = w := by
  have c1 : w.cell? ⟨T, 0, none⟩ = some (.int .i64 3) := (blk_cell h 0).trans rfl
  clear h
  go_enter Tryz.func142, Tryz.ntmps142
  go_wp2
  go_ret
  exact ⟨rfl, rfl⟩
set_option maxHeartbeats 1000000 in
set_option maxRecDepth 100000 in
theorem newdata_full (T sb NB VB : Nat) (s1 s2 : Value) (q1 q2 nl k : Int) (w : World) (h : w.heap[sb]? = some (bsO (ptr NB) (ptr VB))) (hn : w.heap[NB]? = some (bufH 1 s1 q1)) (hv : w.heap[VB]? = some (bufH 1 s2 q2)) (hne : NB ≠ VB) :
    Calls Tryz.prog 62 #[.iface 54 (.pointer (some ⟨T, 0, none⟩)), .int .i64 k, .slice (some ⟨sb, 0, none⟩) 2 2, .slice none 0 0, .int .i64 nl, .int .i64 0] w fun e w' => ∃ D, e = .returned (ptr D) ∧ w.heap.size ≤ D ∧ w'.heap[D]? = some (dataO 1 T nl 0 k sb) ∧ w'.heap[NB]? = some (bufH 2 s1 q1) ∧ w'.heap[VB]? = some (bufH 2 s2 q2) ∧ Tn (fun k => k = NB ∨ k = VB) w w' := by
  have c0 : w.cell? ⟨sb, 0, none⟩ = some (ptr NB) := (blk_cell h 0).trans rfl
  have c1 : w.cell? ⟨sb, 1, none⟩ = some (ptr VB) := (blk_cell h 1).trans rfl
  have hsn : sb ≠ NB := blk_ne h hn (show (83 : Nat) ≠ 136 by decide)
  have HR1 := Aside0.mk (retain_calls NB s1 1 2 q1 (by decide) w hn)
  have HR := Aside0.mk (fun W (hW : W.heap[VB]? = some (bufH 1 s2 q2)) => retain_calls VB s2 1 2 q2 (by decide) W hW)
  have HV := Aside0.mk (And.intro hv (blk_lt hn))
  have hvn : VB ≠ NB := fun e => hne e.symm
  clear h hn hv
  go_enter Tryz.func62, Tryz.ntmps62
  go_wp2
  refine wp_loop_rounds 3 ?_
  rw [rounds_succ]
  go_wp2_with (first | (go_at_call 39; refine HR2.out.mono ?_; rintro e w2 ⟨rfl, e1, e2⟩; have E2 := Aside0.mk (And.intro e1 e2); clear e1 e2) | (go_at_call 39; refine HR1.out.mono ?_; rintro e w1 ⟨rfl, e1, e2⟩; have d1 := cell_kept c1 e2.kept hsn; have HR2 := Aside0.mk (HR.out w1 (blk_kept HV.out.1 e2.kept hvn)); have E1 := Aside0.mk (And.intro e1 e2); clear e1 e2))
  rw [rounds_succ]
  go_wp2_with (first | (go_at_call 39; refine HR2.out.mono ?_; rintro e w2 ⟨rfl, e1, e2⟩; have E2 := Aside0.mk (And.intro e1 e2); clear e1 e2) | (go_at_call 39; refine HR1.out.mono ?_; rintro e w1 ⟨rfl, e1, e2⟩; have d1 := cell_kept c1 e2.kept hsn; have HR2 := Aside0.mk (HR.out w1 (blk_kept HV.out.1 e2.kept hvn)); have E1 := Aside0.mk (And.intro e1 e2); clear e1 e2))
  rw [rounds_succ]
  go_wp2
  refine wp_loop_rounds 1 ?_
  rw [rounds_succ]
  go_wp2_with (first | (go_at_call 33; refine (add_calls ⟨_, 0, none⟩ 0 1 1 (by decide) _ ((blk_cell (blk_new _ _) 0).trans rfl) (blk_frozen (blk_new _ _) 0)).mono ?_; rintro e w3 ⟨rfl, rfl⟩))
  go_ret
  obtain ⟨e1, e2⟩ := E1.out
  obtain ⟨f1, f2⟩ := E2.out
  have hs1 := tn_lt e2
  have hs2 := tn_lt f2
  have l1 := blk_lt f1
  have g1 : w2.heap[NB]? = some (bufH 2 s1 q1) := blk_kept e1 f2.kept hne
  have l2 := blk_lt g1
  have t1 : Tn (fun k => k = NB ∨ k = VB) w w1 := e2.mono (fun k hk => .inl hk)
  exact ⟨w2.heap.size, rfl, by omega, blk_new w2 _, blk_alloc g1 _, blk_alloc f1 _, (t1.then_ f2 (fun k hk => .inl (.inr hk))).alloc _⟩
set_option maxHeartbeats 1000000 in
set_option maxRecDepth 100000 in
theorem newdata_none (T sb NB VB : Nat) (s1 s2 : Value) (q1 q2 nl k : Int) (w : World) (h : w.heap[sb]? = some (bsO (.pointer none) (ptr VB))) (hv : w.heap[VB]? = some (bufN s2 q2)) :
    Calls Tryz.prog 62 #[.iface 54 (.pointer (some ⟨T, 0, none⟩)), .int .i64 k, .slice (some ⟨sb, 0, none⟩) 2 2, .slice none 0 0, .int .i64 nl, .int .i64 0] w fun e w' => ∃ D, e = .returned (ptr D) ∧ w.heap.size ≤ D ∧ w'.heap[D]? = some (dataO 1 T nl 0 k sb) ∧  Tn (fun k => False) w w' := by
  have c0 : w.cell? ⟨sb, 0, none⟩ = some (.pointer none) := (blk_cell h 0).trans rfl
  have c1 : w.cell? ⟨sb, 1, none⟩ = some (ptr VB) := (blk_cell h 1).trans rfl
  have HR1 := Aside0.mk (retain_none VB s2 q2 w hv)
  clear h hv
  go_enter Tryz.func62, Tryz.ntmps62
  go_wp2
  refine wp_loop_rounds 3 ?_
  rw [rounds_succ]
  go_wp2_with (first | (go_at_call 39; refine HR1.out.mono ?_; rintro e w1 ⟨rfl, hw1⟩; subst w1))
  rw [rounds_succ]
  go_wp2_with (first | (go_at_call 39; refine HR1.out.mono ?_; rintro e w1 ⟨rfl, hw1⟩; subst w1))
  rw [rounds_succ]
  go_wp2
  refine wp_loop_rounds 1 ?_
  rw [rounds_succ]
  go_wp2_with (first | (go_at_call 33; refine (add_calls ⟨_, 0, none⟩ 0 1 1 (by decide) _ ((blk_cell (blk_new _ _) 0).trans rfl) (blk_frozen (blk_new _ _) 0)).mono ?_; rintro e w3 ⟨rfl, rfl⟩))
  go_ret
  exact ⟨w.heap.size, rfl, Nat.le_refl _, blk_new w _, (Tn.refl (fun k => False) w).alloc _⟩
end Go.Proofs.YtndbeeboehekaaaGreatDoor.Q

/- A builder's newData. -/
namespace Go.Proofs.YtndbeeboehekaaaGreatDoor.Q
open Go.RowKit Go.Proofs.YtndbeeboehekaaaGreatDoorW.PrintWords Go.Proofs.YtndbeeboehekaaaGreatDoorW.PrintLast Go.Proofs.YtndbeeboehekaaaGreatDoorW.PrintMore
set_option linter.unusedVariables false
set_option linter.unusedSimpArgs false
set_option maxHeartbeats 2000000 in
set_option maxRecDepth 100000 in
theorem nd_full (b T vb NB NR VB VR nulls k c m : Nat) (bm vl : List Int) (q : Int) (w : World) (h : Bd w b vb T NB NR VB VR nulls k c m bm vl q) (hk : 0 < k) (h3 : 3 * k ≤ vl.length) (hm : vl.length ≤ 1000) :
    Calls Tryz.prog 41 #[ptr b] w fun e w' => ∃ D sb VR', e = .returned (ptr D) ∧ w'.heap[D]? = some (dataO 1 T nulls 0 k sb) ∧ w'.heap[sb]? = some (bsO (ptr NB) (ptr VB)) ∧ BufAt w' NB 1 NR bm m ∧ BufAt w' VB 1 VR' vl (3 * k : Nat) ∧ Tn (fun k => k = b ∨ k = vb ∨ k = NB ∨ k = VB) w w' ∧ w.heap.size ≤ D ∧ w.heap.size ≤ sb ∧ (VR' = VR ∨ w.heap.size ≤ VR') := by
  have c7 : w.cell? ⟨b, 7, none⟩ = some (ptr vb) := (blk_cell h.hb 7).trans rfl
  have HF := Aside0.mk (fin_full vb VB VR (3 * k) vl q w h.hv h.hw (by omega) h3 hm)
  have hbv : b ≠ vb := blk_ne h.hb h.hv (show (89 : Nat) ≠ 95 by decide)
  have hbB : b ≠ VB := blk_ne h.hb h.hw.h (show (89 : Nat) ≠ 136 by decide)
  have hbN : b ≠ NB := blk_ne h.hb h.hn.h (show (89 : Nat) ≠ 136 by decide)
  have hNv : NB ≠ vb := blk_ne h.hn.h h.hv (show (136 : Nat) ≠ 95 by decide)
  have hRv : NR ≠ vb := blk_ne h.hn.r h.hv (show (5 : Nat) ≠ 95 by decide)
  have hRB : NR ≠ VB := blk_ne h.hn.r h.hw.h (show (5 : Nat) ≠ 136 by decide)
  have hRN : NR ≠ NB := blk_ne h.hn.r h.hn.h (show (5 : Nat) ≠ 136 by decide)
  have HX := Aside0.mk h
  clear h hk h3 hm
  go_enter Tryz.func41, Tryz.ntmps41
  go_upto_region 2 with (first | (go_at_call 61; refine HF.out.mono ?_; rintro e w1 ⟨rfl, VR', e1, e2, e3, e4⟩; have E := Aside0.mk (And.intro e1 (And.intro e2 (And.intro e3 e4))); clear e1 e2 e3 e4))
  obtain ⟨e1, e2, e3, e4⟩ := E.out
  have g1 := blk_kept HX.out.hb e3.kept (by rintro (e | e); exact hbv e; exact hbB e)
  have n1 := HX.out.hn.kept e3.kept (by rintro (e | e); exact hNv e; exact HX.out.n1 e) (by rintro (e | e); exact hRv e; exact hRB e)
  have c6 : w1.cell? ⟨b, 6, none⟩ = some (ptr T) := (blk_cell g1 6).trans rfl
  have c4 : w1.cell? ⟨b, 4, none⟩ = some (.int .i64 (k : Int)) := (blk_cell g1 4).trans rfl
  have c2 : w1.cell? ⟨b, 2, none⟩ = some (ptr NB) := (blk_cell g1 2).trans rfl
  have c3 : w1.cell? ⟨b, 3, none⟩ = some (.int .i64 (nulls : Int)) := (blk_cell g1 3).trans rfl
  have HD := Aside0.mk (fun d => newdata_full T w1.heap.size NB VB _ _ _ _ nulls k ((w1.drewN d).alloc (bsO (ptr NB) (ptr VB))) (blk_new (w1.drewN d) _) (blk_alloc (blk_drewN n1.h d) _) (blk_alloc (blk_drewN e2.h d) _) HX.out.n1)
  have HY := Aside0.mk (And.intro g1 n1)
  have hbl := blk_lt g1
  have fS : ¬ (w1.heap.size = NB ∨ w1.heap.size = VB) := by have := blk_lt n1.h; have := blk_lt e2.h; omega
  have hRl := And.intro (blk_lt e2.h) (tn_lt e3)
  have fb : ¬ (b = NB ∨ b = VB) := by rintro (e | e); exact hbN e; exact hbB e
  clear e1 e2 e3 e4 g1 n1
  go_region_held3 (fun w' => w'.cell? ⟨b, 6, none⟩ = some (ptr T) ∧ w'.cell? ⟨b, 4, none⟩ = some (.int .i64 (k : Int)) ∧ w'.cell? ⟨b, 2, none⟩ = some (ptr NB) ∧ w'.cell? ⟨b, 3, none⟩ = some (.int .i64 (nulls : Int))) (go_keep) (first | (go_at_call 62; go_loud (refine (HD.out 1).mono ?_; rintro e w2 ⟨D, rfl, d1, d2, d3, d4, d5⟩; have d5' : Tn (fun k => k = NB ∨ k = VB) w1 w2 := (((Tn.refl (fun k => k = NB ∨ k = VB) w1).drewN 1).alloc (bsO (ptr NB) (ptr VB))).then_ d5 (fun k hk => .inl hk); have y6 := cell_kept c6 d5'.kept fb; have y4 := cell_kept c4 d5'.kept fb; have y2 := cell_kept c2 d5'.kept fb; have y3 := cell_kept c3 d5'.kept fb; have s1 := blk_kept (blk_new (w1.drewN 1) (bsO (ptr NB) (ptr VB))) d5.kept fS; have F := Aside0.mk (And.intro d1 (And.intro d2 (And.intro d3 (And.intro d4 (And.intro d5' s1))))); clear d1 d2 d3 d4 d5 d5' s1)))
  have HP := Aside0.mk (release_calls VB _ 2 1 _ (by decide) (by decide) (by decide) w2 F.out.2.2.2.1)
  have HZ := Aside0.mk (fun W (h1 : W.heap[b]? = some (bO (ptr NB) nulls k c T vb)) (h2 : W.heap[NB]? = some (bufH 2 (.slice (some ⟨NR, 0, none⟩) bm.length bm.length) m)) => brs_full b T vb NB nulls k c _ _ W h1 h2)
  go_wp2_with (first | (go_at_call 63; refine HP.out.mono ?_; rintro e w3 ⟨rfl, p1, p2⟩; have b3 := blk_kept (blk_kept HY.out.1 F.out.2.2.2.2.1.kept fb) p2.kept hbB; have n3 := blk_kept F.out.2.2.1 p2.kept HX.out.n1; have HZ2 := Aside0.mk (HZ.out w3 b3 n3); have G := Aside0.mk (And.intro p1 p2); clear p1 p2 b3 n3) | (go_at_call 64; refine HZ2.out.mono ?_; rintro e w4 ⟨rfl, r1, r2, r3⟩; have R := Aside0.mk (And.intro r1 (And.intro r2 r3)); clear r1 r2 r3))
  go_ret
  obtain ⟨e1, e2, e3, e4⟩ := E.out
  obtain ⟨d1, d2, d3, d4, d5, s1⟩ := F.out
  obtain ⟨p1, p2⟩ := G.out
  obtain ⟨r1, r2, r3⟩ := R.out
  obtain ⟨g1, n1⟩ := HY.out
  have h12 := tn_lt e3
  have h1l : w1.heap.size ≤ D := Nat.le_trans (by simp) d1
  have hDB : D ≠ VB := blk_ne d2 d4 (show (108 : Nat) ≠ 136 by decide)
  have hDN : D ≠ NB := blk_ne d2 d3 (show (108 : Nat) ≠ 136 by decide)
  have hbl2 : b < w.heap.size := blk_lt HX.out.hb
  have hDb : D ≠ b := by omega
  have hSB : w1.heap.size ≠ VB := fun e => fS (.inr e)
  have hSN : w1.heap.size ≠ NB := fun e => fS (.inl e)
  have hSb : w1.heap.size ≠ b := by omega
  have fD : ¬ (D = b ∨ D = NB) := by rintro (e | e); exact hDb e; exact hDN e
  have fS2 : ¬ (w1.heap.size = b ∨ w1.heap.size = NB) := by rintro (e | e); exact hSb e; exact hSN e
  have hRb : NR ≠ b := blk_ne n1.r g1 (show (5 : Nat) ≠ 89 by decide)
  have hRb2 : VR' ≠ b := blk_ne e2.r g1 (show (5 : Nat) ≠ 89 by decide)
  have hRN2 : VR' ≠ NB := blk_ne e2.r n1.h (show (5 : Nat) ≠ 136 by decide)
  have hRB2 : VR' ≠ VB := blk_ne e2.r e2.h (show (5 : Nat) ≠ 136 by decide)
  have hBb : VB ≠ b := fun e => hbB e.symm
  have hBN : VB ≠ NB := fun e => HX.out.n1 e.symm
  have vr2 : Row w2 VR' vl := e2.r.kept d5.kept (by rintro (e | e); exact hRN2 e; exact hRB2 e)
  have nr2 : Row w2 NR bm := n1.r.kept d5.kept (by rintro (e | e); exact hRN e; exact hRB e)
  refine ⟨D, w1.heap.size, VR', rfl, blk_kept (blk_kept d2 p2.kept hDB) r3.kept fD, blk_kept (blk_kept s1 p2.kept hSB) r3.kept fS2, ⟨r2, (nr2.kept p2.kept hRB).kept r3.kept (by rintro (e | e); exact hRb e; exact hRN e)⟩, ⟨blk_kept p1 r3.kept (by rintro (e | e); exact hBb e; exact hBN e), (vr2.kept p2.kept hRB2).kept r3.kept (by rintro (e | e); exact hRb2 e; exact hRN2 e)⟩, ?_, by omega, h12, e4⟩
  have t1 : Tn (fun k => k = b ∨ k = vb ∨ k = NB ∨ k = VB) w w1 := e3.mono (fun k hk => by rcases hk with e | e; exact .inr (.inl e); exact .inr (.inr (.inr e)))
  exact ((t1.then_ d5 (fun k hk => by rcases hk with e | e; exact .inl (.inr (.inr (.inl e))); exact .inl (.inr (.inr (.inr e))))).then_ p2 (fun k hk => .inl (.inr (.inr (.inr hk))))).then_ r3 (fun k hk => by rcases hk with e | e; exact .inl (.inl e); exact .inl (.inr (.inr (.inl e))))
set_option maxHeartbeats 2000000 in
set_option maxRecDepth 100000 in
theorem nd_none (b T vb : Nat) (w : World) (h : Bd0 w b vb T) :
    Calls Tryz.prog 41 #[ptr b] w fun e w' => ∃ D sb VB X, e = .returned (ptr D) ∧ w'.heap[D]? = some (dataO 1 T 0 0 0 sb) ∧ w'.heap[sb]? = some (bsO (.pointer none) (ptr VB)) ∧ w'.heap[VB]? = some (bufN (.slice (some ⟨X, 0, none⟩) 0 0) 0) ∧ Tn (fun k => k = b ∨ k = vb) w w' ∧ w.heap.size ≤ D ∧ w.heap.size ≤ sb ∧ w.heap.size ≤ VB ∧ w.heap.size ≤ X := by
  have c7 : w.cell? ⟨b, 7, none⟩ = some (ptr vb) := (blk_cell h.hb 7).trans rfl
  have HF := Aside0.mk (fin_none vb _ w h.hv)
  have hbv : b ≠ vb := blk_ne h.hb h.hv (show (89 : Nat) ≠ 95 by decide)
  have HX := Aside0.mk h
  have hbl := blk_lt h.hb
  clear h
  go_enter Tryz.func41, Tryz.ntmps41
  go_upto_region 2 with (first | (go_at_call 61; refine HF.out.mono ?_; rintro e w1 ⟨X, VB, rfl, e1, e2, e3, e4, e5⟩; have E := Aside0.mk (And.intro e1 (And.intro e2 (And.intro e3 (And.intro e4 e5)))); clear e1 e2 e3 e4 e5))
  obtain ⟨e1, e2, e3, e4, e5⟩ := E.out
  have g1 := blk_kept HX.out.hb e3.kept (by rintro (e | e); exact hbv e; omega)
  have c6 : w1.cell? ⟨b, 6, none⟩ = some (ptr T) := (blk_cell g1 6).trans rfl
  have c4 : w1.cell? ⟨b, 4, none⟩ = some (.int .i64 0) := (blk_cell g1 4).trans rfl
  have c2 : w1.cell? ⟨b, 2, none⟩ = some (.pointer none) := (blk_cell g1 2).trans rfl
  have c3 : w1.cell? ⟨b, 3, none⟩ = some (.int .i64 0) := (blk_cell g1 3).trans rfl
  have HD := Aside0.mk (fun d => newdata_none T w1.heap.size 0 VB (.int .i64 0) _ 0 _ 0 0 ((w1.drewN d).alloc (bsO (.pointer none) (ptr VB))) (blk_new (w1.drewN d) _) (blk_alloc (blk_drewN e2 d) _))
  have HY := Aside0.mk g1
  have hbl1 := blk_lt g1
  have hB1 := blk_lt e2
  clear e1 e2 e3 e4 e5 g1
  go_region_held3 (fun w' => w'.cell? ⟨b, 6, none⟩ = some (ptr T) ∧ w'.cell? ⟨b, 4, none⟩ = some (.int .i64 0) ∧ w'.cell? ⟨b, 2, none⟩ = some (.pointer none) ∧ w'.cell? ⟨b, 3, none⟩ = some (.int .i64 0)) (go_keep) (first | (go_at_call 62; go_loud (refine (HD.out 1).mono ?_; rintro e w2 ⟨D, rfl, d1, d2, d5⟩; have d5' : Tn (fun k => False) w1 w2 := (((Tn.refl (fun k => False) w1).drewN 1).alloc (bsO (.pointer none) (ptr VB))).then_ d5 (fun k hk => .inl hk); have y6 := cell_kept c6 d5'.kept id; have y4 := cell_kept c4 d5'.kept id; have y2 := cell_kept c2 d5'.kept id; have y3 := cell_kept c3 d5'.kept id; have s1 := blk_kept (blk_new (w1.drewN 1) (bsO (.pointer none) (ptr VB))) d5.kept id; have F := Aside0.mk (And.intro d1 (And.intro d2 (And.intro d5' s1))); clear d1 d2 d5 d5' s1)))
  have HP := Aside0.mk (release_none VB _ _ w2 (blk_kept E.out.2.1 F.out.2.2.1.kept id))
  have HZ := Aside0.mk (brs_none b T vb _ _ _ w2 (blk_kept HY.out F.out.2.2.1.kept id))
  go_wp2_with (first | (go_at_call 63; refine HP.out.mono ?_; rintro e w3 ⟨rfl, hw3⟩; subst w3) | (go_at_call 64; refine HZ.out.mono ?_; rintro e w4 ⟨rfl, r1, r3⟩; have R := Aside0.mk (And.intro r1 r3); clear r1 r3))
  go_ret
  obtain ⟨e1, e2, e3, e4, e5⟩ := E.out
  obtain ⟨d1, d2, d5, s1⟩ := F.out
  obtain ⟨r1, r3⟩ := R.out
  have h12 := tn_lt e3
  have h1l : w1.heap.size ≤ D := Nat.le_trans (by simp) d1
  have hDb : D ≠ b := by omega
  have hSb : w1.heap.size ≠ b := by omega
  have hVb : VB ≠ b := by omega
  refine ⟨D, w1.heap.size, VB, X, rfl, blk_kept d2 r3.kept hDb, blk_kept s1 r3.kept hSb, blk_kept (blk_kept e2 d5.kept id) r3.kept hVb, ?_, by omega, h12, e5, e4⟩
  have t1 : Tn (fun k => (k = b ∨ k = vb) ∨ w.heap.size ≤ k) w w1 := e3.mono (fun k hk => by rcases hk with e | e; exact .inl (.inr e); exact .inr e)
  have t2 := (t1.then_ d5 (fun k hk => hk.elim)).then_ r3 (fun k hk => .inl (.inl (.inl hk)))
  exact (Tn.refl (fun k => k = b ∨ k = vb) w).then_ t2 (fun k hk => hk)
end Go.Proofs.YtndbeeboehekaaaGreatDoor.Q

/- An array's setData. -/
namespace Go.Proofs.YtndbeeboehekaaaGreatDoor.Q
open Go.RowKit Go.Proofs.YtndbeeboehekaaaGreatDoorW.PrintWords Go.Proofs.YtndbeeboehekaaaGreatDoorW.PrintLast Go.Proofs.YtndbeeboehekaaaGreatDoorW.PrintMore
set_option linter.unusedVariables false
set_option linter.unusedSimpArgs false
/-- An array of binaries of three bytes. -/
def fsbO (r : Int) (p bs vs : Value) : Obj := .cells #[.int .i64 r, p, bs, vs, .int .i32 3] 73 (0, 0)
set_option maxHeartbeats 2000000 in
set_option maxRecDepth 100000 in
theorem set60_full (A D T sb NB NR : Nat) (p1 vs : Value) (r t nulls off len : Int) (ht : IntKind.i64.wrap (r + 1) = t) (m : Nat) (bm : List Int) (rr : Int) (w : World) (h : w.heap[A]? = some (fsbO 1 (.pointer none) (.slice none 0 0) vs)) (hD : w.heap[D]? = some (dataO r T nulls off len sb)) (hs : w.heap[sb]? = some (bsO (ptr NB) p1)) (hb : BufAt w NB rr NR bm m) (hm : m ≤ bm.length) :
    Calls Tryz.prog 60 #[ptr A, ptr D] w fun e w' => e = .returned (.tuple #[]) ∧ w'.heap[A]? = some (fsbO 1 (ptr D) (.slice (some ⟨NR, 0, none⟩) m bm.length) vs) ∧ w'.heap[D]? = some (dataO t T nulls off len sb) ∧ Tn (fun k => k = A ∨ k = D) w w' := by
  have HR := Aside0.mk (dret_calls D T sb r t nulls off len ht w hD)
  have hAD : A ≠ D := blk_ne h hD (show (73 : Nat) ≠ 108 by decide)
  have c0 : w.cell? ⟨sb, 0, none⟩ = some (ptr NB) := (blk_cell hs 0).trans rfl
  have hsD : sb ≠ D := blk_ne hs hD (show (83 : Nat) ≠ 108 by decide)
  have hND : NB ≠ D := blk_ne hb.h hD (show (136 : Nat) ≠ 108 by decide)
  have hRD : NR ≠ D := blk_ne hb.r hD (show (5 : Nat) ≠ 108 by decide)
  have HB := Aside0.mk (fun W (hW : BufAt W NB rr NR bm m) => bytes_calls NB (some ⟨NR, 0, none⟩) bm.length m bm.length W ((blk_cell hW.h 1).trans rfl) ((blk_cell hW.h 2).trans rfl) hm)
  have HX := Aside0.mk (And.intro h hb)
  clear h hD hs hb hm ht
  go_enter Tryz.func60, Tryz.ntmps60
  go_wp2_with (first | (go_at_call 40; refine HR.out.mono ?_; rintro e w1 ⟨rfl, e1, e2⟩; have a1 := blk_kept HX.out.1 e2.kept hAD; have d5 : w1.cell? ⟨D, 5, none⟩ = some (.slice (some ⟨sb, 0, none⟩) 2 2) := (blk_cell e1 5).trans rfl; have y1 : w1.cell? ⟨A, 1, none⟩ = some (.pointer none) := (blk_cell a1 1).trans rfl; have y2 : w1.cell? ⟨A, 2, none⟩ = some (.slice none 0 0) := (blk_cell a1 2).trans rfl; have z1 : w1.frozen? ⟨A, 1, none⟩ = false := blk_frozen a1 1; have z2 : w1.frozen? ⟨A, 2, none⟩ = false := blk_frozen a1 2; have s0 := cell_kept c0 e2.kept hsD; have HBY := Aside0.mk (HB.out w1 (HX.out.2.kept e2.kept hND hRD)); have E := Aside0.mk (And.intro e1 (And.intro e2 a1)); clear e1 e2 a1) | (go_at_call 58; refine HBY.out.mono ?_; rintro e w2 ⟨rfl, ⟨n1, rfl⟩⟩; have zz := blk_frozen (blk_set (blk_drewN E.out.2.2 n1) 2 (.slice (some ⟨NR, 0, none⟩) m bm.length)) 1; have zy : (w1.drewN n1).frozen? ⟨A, 2, none⟩ = false := z2; have zx : (w1.drewN n1).cell? ⟨A, 2, none⟩ = some (.slice none 0 0) := y2; have zw : (w1.drewN n1).cell? ⟨A, 1, none⟩ = some (.pointer none) := y1))
  go_end0
  obtain ⟨e1, e2, a1⟩ := E.out
  have hDA : D ≠ A := fun e => hAD e.symm
  refine ⟨rfl, blk_set (blk_set (blk_drewN a1 n1) 2 _) 1 _, blk_far (blk_far (blk_drewN e1 n1) (p := ⟨A, 2, none⟩) hDA _) (p := ⟨A, 1, none⟩) hDA _, ?_⟩
  exact (((e2.mono (fun k hk => .inr hk)).drewN n1).setCell (p := ⟨A, 2, none⟩) (.inl (.inl rfl)) _).setCell (p := ⟨A, 1, none⟩) (.inl (.inl rfl)) _
set_option maxHeartbeats 2000000 in
set_option maxRecDepth 100000 in
theorem set60_none (A D T sb NB NR : Nat) (p1 vs : Value) (r t nulls off len : Int) (ht : IntKind.i64.wrap (r + 1) = t) (m : Nat) (bm : List Int) (rr : Int) (w : World) (h : w.heap[A]? = some (fsbO 1 (.pointer none) (.slice none 0 0) vs)) (hD : w.heap[D]? = some (dataO r T nulls off len sb)) (hs : w.heap[sb]? = some (bsO (.pointer none) p1)) :
    Calls Tryz.prog 60 #[ptr A, ptr D] w fun e w' => e = .returned (.tuple #[]) ∧ w'.heap[A]? = some (fsbO 1 (ptr D) (.slice none 0 0) vs) ∧ w'.heap[D]? = some (dataO t T nulls off len sb) ∧ Tn (fun k => k = A ∨ k = D) w w' := by
  have HR := Aside0.mk (dret_calls D T sb r t nulls off len ht w hD)
  have hAD : A ≠ D := blk_ne h hD (show (73 : Nat) ≠ 108 by decide)
  have c0 : w.cell? ⟨sb, 0, none⟩ = some (.pointer none) := (blk_cell hs 0).trans rfl
  have hsD : sb ≠ D := blk_ne hs hD (show (83 : Nat) ≠ 108 by decide)
  have HX := Aside0.mk (And.intro h hs)
  clear h hD hs ht
  go_enter Tryz.func60, Tryz.ntmps60
  go_wp2_with (first | (go_at_call 40; refine HR.out.mono ?_; rintro e w1 ⟨rfl, e1, e2⟩; have a1 := blk_kept HX.out.1 e2.kept hAD; have d5 : w1.cell? ⟨D, 5, none⟩ = some (.slice (some ⟨sb, 0, none⟩) 2 2) := (blk_cell e1 5).trans rfl; have y1 : w1.cell? ⟨A, 1, none⟩ = some (.pointer none) := (blk_cell a1 1).trans rfl; have y2 : w1.cell? ⟨A, 2, none⟩ = some (.slice none 0 0) := (blk_cell a1 2).trans rfl; have z1 : w1.frozen? ⟨A, 1, none⟩ = false := blk_frozen a1 1; have z2 : w1.frozen? ⟨A, 2, none⟩ = false := blk_frozen a1 2; have s0 := cell_kept c0 e2.kept hsD; have E := Aside0.mk (And.intro e1 (And.intro e2 a1)); clear e1 e2 a1))
  go_end0
  obtain ⟨e1, e2, a1⟩ := E.out
  have hDA : D ≠ A := fun e => hAD e.symm
  refine ⟨rfl, blk_set a1 1 _, blk_far e1 (p := ⟨A, 1, none⟩) hDA _, ?_⟩
  exact (e2.mono (fun k hk => .inr hk)).setCell (p := ⟨A, 1, none⟩) (.inl (.inl rfl)) _
set_option maxHeartbeats 2000000 in
set_option maxRecDepth 100000 in
theorem set38_full (A D T sb NB NR VB : Nat) (X : Option Addr) (n c L : Nat) (r t nulls off len : Int) (ht : IntKind.i64.wrap (r + 1) = t) (m : Nat) (bm : List Int) (rr : Int) (w : World) (h : w.heap[A]? = some (fsbO 1 (.pointer none) (.slice none 0 0) (.slice none 0 0))) (hD : w.heap[D]? = some (dataO r T nulls off len sb)) (hs : w.heap[sb]? = some (bsO (ptr NB) (ptr VB))) (hb : BufAt w NB rr NR bm m) (hm : m ≤ bm.length) (hv1 : w.cell? ⟨VB, 1, none⟩ = some (.slice X L c)) (hv2 : w.cell? ⟨VB, 2, none⟩ = some (.int .i64 (n : Int))) (hc : n ≤ c) (hVA : VB ≠ A ∧ VB ≠ D) :
    Calls Tryz.prog 38 #[ptr A, ptr D] w fun e w' => e = .returned (.tuple #[]) ∧ w'.heap[A]? = some (fsbO 1 (ptr D) (.slice (some ⟨NR, 0, none⟩) m bm.length) (.slice X n c)) ∧ w'.heap[D]? = some (dataO t T nulls off len sb) ∧ Tn (fun k => k = A ∨ k = D) w w' := by
  have HR := Aside0.mk (set60_full A D T sb NB NR (ptr VB) (.slice none 0 0) r t nulls off len ht m bm rr w h hD hs hb hm)
  have hAD : A ≠ D := blk_ne h hD (show (73 : Nat) ≠ 108 by decide)
  have c1 : w.cell? ⟨sb, 1, none⟩ = some (ptr VB) := (blk_cell hs 1).trans rfl
  have hsD : sb ≠ D := blk_ne hs hD (show (83 : Nat) ≠ 108 by decide)
  have hsA : sb ≠ A := blk_ne hs h (show (83 : Nat) ≠ 73 by decide)
  have HB := Aside0.mk (fun W (h1 : W.cell? ⟨VB, 1, none⟩ = some (.slice X L c)) (h2 : W.cell? ⟨VB, 2, none⟩ = some (.int .i64 (n : Int))) => bytes_calls VB X L n c W h1 h2 hc)
  have fV : ¬ (VB = A ∨ VB = D) := by rintro (e | e); exact hVA.1 e; exact hVA.2 e
  have fs : ¬ (sb = A ∨ sb = D) := by rintro (e | e); exact hsA e; exact hsD e
  have HX := Aside0.mk (And.intro hv1 hv2)
  clear hb hm h hD hs hc ht hv1 hv2
  go_enter Tryz.func38, Tryz.ntmps38
  go_wp2_with (first | (go_at_call 60; refine HR.out.mono ?_; rintro e w1 ⟨rfl, e1, e2, e3⟩; have d5 : w1.cell? ⟨D, 5, none⟩ = some (.slice (some ⟨sb, 0, none⟩) 2 2) := (blk_cell e2 5).trans rfl; have s1 := cell_kept c1 e3.kept fs; have HBY := Aside0.mk (HB.out w1 (cell_kept HX.out.1 e3.kept fV) (cell_kept HX.out.2 e3.kept fV)); have E := Aside0.mk (And.intro e1 (And.intro e2 e3)); clear e1 e2 e3) | (go_at_call 58; refine HBY.out.mono ?_; rintro e w2 ⟨rfl, ⟨n1, rfl⟩⟩; have a2 := blk_drewN E.out.1 n1; have z3 := blk_frozen a2 3; have y3 : (w1.drewN n1).cell? ⟨A, 3, none⟩ = some (.slice none 0 0) := (blk_cell a2 3).trans rfl; clear a2))
  go_end0
  obtain ⟨e1, e2, e3⟩ := E.out
  have hDA : D ≠ A := fun e => hAD e.symm
  exact ⟨rfl, blk_set (blk_drewN e1 n1) 3 _, blk_far (blk_drewN e2 n1) (p := ⟨A, 3, none⟩) hDA _, (e3.drewN n1).setCell (p := ⟨A, 3, none⟩) (.inl (.inl rfl)) _⟩
set_option maxHeartbeats 2000000 in
set_option maxRecDepth 100000 in
theorem set38_none (A D T sb NB NR VB : Nat) (X : Option Addr) (n c L : Nat) (r t nulls off len : Int) (ht : IntKind.i64.wrap (r + 1) = t) (m : Nat) (bm : List Int) (rr : Int) (w : World) (h : w.heap[A]? = some (fsbO 1 (.pointer none) (.slice none 0 0) (.slice none 0 0))) (hD : w.heap[D]? = some (dataO r T nulls off len sb)) (hs : w.heap[sb]? = some (bsO (.pointer none) (ptr VB))) (hv1 : w.cell? ⟨VB, 1, none⟩ = some (.slice X L c)) (hv2 : w.cell? ⟨VB, 2, none⟩ = some (.int .i64 (n : Int))) (hc : n ≤ c) (hVA : VB ≠ A ∧ VB ≠ D) :
    Calls Tryz.prog 38 #[ptr A, ptr D] w fun e w' => e = .returned (.tuple #[]) ∧ w'.heap[A]? = some (fsbO 1 (ptr D) (.slice none 0 0) (.slice X n c)) ∧ w'.heap[D]? = some (dataO t T nulls off len sb) ∧ Tn (fun k => k = A ∨ k = D) w w' := by
  have HR := Aside0.mk (set60_none A D T sb NB NR (ptr VB) (.slice none 0 0) r t nulls off len ht m bm rr w h hD hs)
  have hAD : A ≠ D := blk_ne h hD (show (73 : Nat) ≠ 108 by decide)
  have c1 : w.cell? ⟨sb, 1, none⟩ = some (ptr VB) := (blk_cell hs 1).trans rfl
  have hsD : sb ≠ D := blk_ne hs hD (show (83 : Nat) ≠ 108 by decide)
  have hsA : sb ≠ A := blk_ne hs h (show (83 : Nat) ≠ 73 by decide)
  have HB := Aside0.mk (fun W (h1 : W.cell? ⟨VB, 1, none⟩ = some (.slice X L c)) (h2 : W.cell? ⟨VB, 2, none⟩ = some (.int .i64 (n : Int))) => bytes_calls VB X L n c W h1 h2 hc)
  have fV : ¬ (VB = A ∨ VB = D) := by rintro (e | e); exact hVA.1 e; exact hVA.2 e
  have fs : ¬ (sb = A ∨ sb = D) := by rintro (e | e); exact hsA e; exact hsD e
  have HX := Aside0.mk (And.intro hv1 hv2)
  clear  h hD hs hc ht hv1 hv2
  go_enter Tryz.func38, Tryz.ntmps38
  go_wp2_with (first | (go_at_call 60; refine HR.out.mono ?_; rintro e w1 ⟨rfl, e1, e2, e3⟩; have d5 : w1.cell? ⟨D, 5, none⟩ = some (.slice (some ⟨sb, 0, none⟩) 2 2) := (blk_cell e2 5).trans rfl; have s1 := cell_kept c1 e3.kept fs; have HBY := Aside0.mk (HB.out w1 (cell_kept HX.out.1 e3.kept fV) (cell_kept HX.out.2 e3.kept fV)); have E := Aside0.mk (And.intro e1 (And.intro e2 e3)); clear e1 e2 e3) | (go_at_call 58; refine HBY.out.mono ?_; rintro e w2 ⟨rfl, ⟨n1, rfl⟩⟩; have a2 := blk_drewN E.out.1 n1; have z3 := blk_frozen a2 3; have y3 : (w1.drewN n1).cell? ⟨A, 3, none⟩ = some (.slice none 0 0) := (blk_cell a2 3).trans rfl; clear a2))
  go_end0
  obtain ⟨e1, e2, e3⟩ := E.out
  have hDA : D ≠ A := fun e => hAD e.symm
  exact ⟨rfl, blk_set (blk_drewN e1 n1) 3 _, blk_far (blk_drewN e2 n1) (p := ⟨A, 3, none⟩) hDA _, (e3.drewN n1).setCell (p := ⟨A, 3, none⟩) (.inl (.inl rfl)) _⟩
set_option maxHeartbeats 2000000 in
set_option maxRecDepth 100000 in
theorem adata_calls (A D : Nat) (r : Int) (bs vs : Value) (w : World) (h : w.heap[A]? = some (fsbO r (ptr D) bs vs)) : Calls Tryz.prog 24 #[ptr A] w fun e w' => e = .returned (.iface 69 (ptr D)) ∧ w' = w := by
  have c1 : w.cell? ⟨A, 1, none⟩ = some (ptr D) := (blk_cell h 1).trans rfl
  clear h
  go_enter Tryz.func24, Tryz.ntmps24
  go_wp2
  go_ret
  exact ⟨rfl, rfl⟩
end Go.Proofs.YtndbeeboehekaaaGreatDoor.Q

/- An array over data: NewFixedSizeBinaryData. -/
namespace Go.Proofs.YtndbeeboehekaaaGreatDoor.Q
open Go.RowKit Go.Proofs.YtndbeeboehekaaaGreatDoorW.PrintWords Go.Proofs.YtndbeeboehekaaaGreatDoorW.PrintLast Go.Proofs.YtndbeeboehekaaaGreatDoorW.PrintMore
set_option linter.unusedVariables false
set_option linter.unusedSimpArgs false
/-- The bitmap's buffer and its bytes. -/
def BitsAt (w : World) (p bs : Value) : Prop := (p = .pointer none ∧ bs = .slice none 0 0) ∨ ∃ (NB NR : Nat) (rr : Int) (m : Nat) (bm : List Int), p = ptr NB ∧ BufAt w NB rr NR bm m ∧ m ≤ bm.length ∧ bs = .slice (some ⟨NR, 0, none⟩) m bm.length
theorem set38_any (A D T sb VB : Nat) (p bs : Value) (X : Option Addr) (n c L : Nat) (r t nulls off len : Int) (ht : IntKind.i64.wrap (r + 1) = t) (w : World) (h : w.heap[A]? = some (fsbO 1 (.pointer none) (.slice none 0 0) (.slice none 0 0))) (hD : w.heap[D]? = some (dataO r T nulls off len sb)) (hs : w.heap[sb]? = some (bsO p (ptr VB))) (hb : BitsAt w p bs) (hv1 : w.cell? ⟨VB, 1, none⟩ = some (.slice X L c)) (hv2 : w.cell? ⟨VB, 2, none⟩ = some (.int .i64 (n : Int))) (hc : n ≤ c) (hVA : VB ≠ A ∧ VB ≠ D) :
    Calls Tryz.prog 38 #[ptr A, ptr D] w fun e w' => e = .returned (.tuple #[]) ∧ w'.heap[A]? = some (fsbO 1 (ptr D) bs (.slice X n c)) ∧ w'.heap[D]? = some (dataO t T nulls off len sb) ∧ Tn (fun k => k = A ∨ k = D) w w' := by
  rcases hb with ⟨rfl, rfl⟩ | ⟨NB, NR, rr, m, bm, rfl, hb, hm, rfl⟩
  · exact set38_none A D T sb 0 0 VB X n c L r t nulls off len ht 0 [] 0 w h hD hs hv1 hv2 hc hVA
  · exact set38_full A D T sb NB NR VB X n c L r t nulls off len ht m bm rr w h hD hs hb hm hv1 hv2 hc hVA
theorem BitsAt.kept {w w' : World} {p bs : Value} {S : Nat → Prop} (h : BitsAt w p bs) (hk : Kept w w' S) (hS : ∀ k, S k → (∃ c t f, w.heap[k]? = some (.cells c t f) ∧ t ≠ 136 ∧ t ≠ 5) ∨ w.heap.size ≤ k) : BitsAt w' p bs := by
  rcases h with h | ⟨NB, NR, rr, m, bm, e1, hb, hm, e2⟩
  · exact .inl h
  · refine .inr ⟨NB, NR, rr, m, bm, e1, hb.kept hk (fun hS1 => ?_) (fun hS1 => ?_), hm, e2⟩
    · rcases hS _ hS1 with ⟨c, t, f, g1, g2, g3⟩ | g
      · exact (blk_ne g1 hb.h g2) rfl
      · have := hb.ltB; omega
    · rcases hS _ hS1 with ⟨c, t, f, g1, g2, g3⟩ | g
      · exact (blk_ne g1 hb.r g3) rfl
      · have := hb.ltD; omega
set_option maxHeartbeats 2000000 in
set_option maxRecDepth 100000 in
theorem nfd_calls (D T sb VB : Nat) (p bs : Value) (X : Option Addr) (n c L : Nat) (r t nulls off len : Int) (ht : IntKind.i64.wrap (r + 1) = t) (w : World) (hT : w.heap[T]? = some tyO) (hD : w.heap[D]? = some (dataO r T nulls off len sb)) (hs : w.heap[sb]? = some (bsO p (ptr VB))) (hb : BitsAt w p bs) (hv1 : w.cell? ⟨VB, 1, none⟩ = some (.slice X L c)) (hv2 : w.cell? ⟨VB, 2, none⟩ = some (.int .i64 (n : Int))) (hc : n ≤ c) (hVD : VB ≠ D) :
    Calls Tryz.prog 21 #[.iface 69 (ptr D)] w fun e w' => ∃ A, e = .returned (ptr A) ∧ w.heap.size ≤ A ∧ w'.heap[A]? = some (fsbO 1 (ptr D) bs (.slice X n c)) ∧ w'.heap[D]? = some (dataO t T nulls off len sb) ∧ Tn (fun k => k = D) w w' := by
  have HT := Aside0.mk (dty_calls D T sb r nulls off len w hD)
  have HW := Aside0.mk (width_calls T w hT)
  have h1 := fun (a : Addr) (W : World) => (show (nilAhead 177 69 (.pointer (some a)) "DataType").run Tryz.prog W = .ok (some false) W by kernel_rfl)
  have h2 := fun (a : Addr) (W : World) => (show (method 177 69 (.pointer (some a)) "DataType").run Tryz.prog W = .ok (145, .pointer (some a)) W by kernel_rfl)
  have h3 := fun (a : Addr) (W : World) => (show (nilAhead 177 54 (.pointer (some a)) "BitWidth").run Tryz.prog W = .ok (some false) W by kernel_rfl)
  have h4 := fun (a : Addr) (W : World) => (show (method 177 54 (.pointer (some a)) "BitWidth").run Tryz.prog W = .ok (142, .pointer (some a)) W by kernel_rfl)
  have h5 := fun (a : Addr) (W : World) => (show (Instr.typeAssert (.iface 54 (.pointer (some a))) 100 98 false).run Tryz.prog W = .ok (.iface 54 (.pointer (some a))) W by kernel_rfl)
  have h6 := fun (a : Addr) (W : World) => (show (Instr.typeAssert (.iface 69 (.pointer (some a))) 61 69 false).run Tryz.prog W = .ok (.pointer (some a)) W by kernel_rfl)
  have hVl : VB < w.heap.size := World.block_lt_of_cell? w _ hv1
  have hal : Tn (fun _ => False) w (w.alloc (fsbO 1 (.pointer none) (.slice none 0 0) (.slice none 0 0))) := (Tn.refl _ w).alloc _
  have HS := Aside0.mk (set38_any w.heap.size D T sb VB p bs X n c L r t nulls off len ht (w.alloc (fsbO 1 (.pointer none) (.slice none 0 0) (.slice none 0 0))) (blk_new w _) (blk_alloc hD _) (blk_alloc hs _) (hb.kept hal.kept (fun k hk => hk.elim)) (cell_kept hv1 hal.kept id) (cell_kept hv2 hal.kept id) hc ⟨by omega, hVD⟩)
  clear hal
  clear hT hD hs hb hv1 hv2 hc hVD ht hVl
  go_enter Tryz.func21, Tryz.ntmps21
  go_wp2_with (first | (go_at_call 145; refine HT.out.mono ?_; rintro e w1 ⟨rfl, hw1⟩; subst w1) | (go_at_call 142; refine HW.out.mono ?_; rintro e w1 ⟨rfl, hw1⟩; subst w1) | (go_at_call 38; refine HS.out.mono ?_; rintro e w4 ⟨rfl, e1, e2, e3⟩; have E := Aside0.mk (And.intro e1 (And.intro e2 e3)); clear e1 e2 e3) | (go_at_call 33; refine (add_calls ⟨_, 0, none⟩ 0 1 1 (by decide) _ ((blk_cell (blk_new _ _) 0).trans rfl) (blk_frozen (blk_new _ _) 0)).mono ?_; rintro e w3 ⟨rfl, rfl⟩))
  go_ret
  obtain ⟨e1, e2, e3⟩ := E.out
  refine ⟨w.heap.size, rfl, Nat.le_refl _, e1, e2, ?_⟩
  exact ((Tn.refl (fun k => k = D) w).alloc _).then_ e3 (fun k hk => by rcases hk with e | e; exact .inr (by omega); exact .inl e)
end Go.Proofs.YtndbeeboehekaaaGreatDoor.Q

/- An array built: NewFixedSizeBinaryArray. -/
namespace Go.Proofs.YtndbeeboehekaaaGreatDoor.Q
open Go.RowKit Go.Proofs.YtndbeeboehekaaaGreatDoorW.PrintWords Go.Proofs.YtndbeeboehekaaaGreatDoorW.PrintLast Go.Proofs.YtndbeeboehekaaaGreatDoorW.PrintMore
set_option linter.unusedVariables false
set_option linter.unusedSimpArgs false
/-- Data over what a builder held: its buffers' blocks lie from B0 on. -/
structure Full (w : World) (B0 D T sb NB NR VB VR : Nat) (xs : List Ent) (nulls C m : Nat) (bm vl : List Int) (off len : Int) (nl r rb : Int) : Prop where
  hD : w.heap[D]? = some (dataO r T nl off len sb)
  hT : w.heap[T]? = some tyO
  hs : w.heap[sb]? = some (bsO (ptr NB) (ptr VB))
  hn : BufAt w NB rb NR bm m
  hv : BufAt w VB rb VR vl (3 * xs.length : Nat)
  inv : Inv xs nulls C m bm vl
  ne : NB ≠ VB
  lo : B0 ≤ D ∧ B0 ≤ T ∧ B0 ≤ sb ∧ B0 ≤ NB ∧ B0 ≤ NR ∧ B0 ≤ VB ∧ B0 ≤ VR
/-- Data of no values. -/
structure None (w : World) (B0 D T sb VB X : Nat) (off len : Int) (nl r : Int) : Prop where
  hD : w.heap[D]? = some (dataO r T nl off len sb)
  hT : w.heap[T]? = some tyO
  hs : w.heap[sb]? = some (bsO (.pointer none) (ptr VB))
  hv : w.heap[VB]? = some (bufN (.slice (some ⟨X, 0, none⟩) 0 0) 0)
  lo : B0 ≤ D ∧ B0 ≤ T ∧ B0 ≤ sb ∧ B0 ≤ VB ∧ B0 ≤ X
/-- Data that was made out of a builder's values. -/
def Dv (w : World) (B0 D : Nat) (xs : List Ent) (off len r rb : Int) : Prop :=
  (xs = [] ∧ ∃ T sb VB X, None w B0 D T sb VB X off len 0 r) ∨
  (xs ≠ [] ∧ ∃ T sb NB NR VB VR nulls C m bm vl nl, Full w B0 D T sb NB NR VB VR xs nulls C m bm vl off len nl r rb)
set_option maxHeartbeats 2000000 in
set_option maxRecDepth 100000 in
theorem na_calls (B0 U b vb T : Nat) (xs : List Ent) (w : World) (hU : w.heap.size ≤ U) (h : St w B0 U b vb T xs) (h0 : xs = [] → Bd0 w b vb T) :
    Calls Tryz.prog 23 #[ptr b] w fun e w' => ∃ A D bs vs, e = .returned (ptr A) ∧ w'.heap[A]? = some (fsbO 1 (ptr D) bs vs) ∧ Dv w' B0 D xs 0 xs.length 1 1 ∧ Below B0 w w' ∧ B0 ≤ A := by
  obtain ⟨hlo, hhi, hh⟩ := h
  rcases hh with ⟨rfl, hh⟩ | ⟨NB, NR, VB, VR, nulls, C, m, bm, vl, q, hh, u1⟩
  · have HN := Aside0.mk (nd_none b T vb w hh)
    have hTl := blk_lt hh.hT
    have hbl := blk_lt hh.hb
    have hvl := blk_lt hh.hv
    have hTb : T ≠ b := blk_ne hh.hT hh.hb (show (56 : Nat) ≠ 89 by decide)
    have hTv : T ≠ vb := blk_ne hh.hT hh.hv (show (56 : Nat) ≠ 95 by decide)
    have HX := Aside0.mk (And.intro hh (And.intro hlo hU))
    clear hh hlo hhi hU h0
    go_enter Tryz.func23, Tryz.ntmps23
    go_wp2_with (first | (go_at_call 41; refine HN.out.mono ?_; rintro e w1 ⟨D, sb, VB, X, rfl, d1, d2, d3, d4, d5⟩; have E := Aside0.mk (And.intro d1 (And.intro d2 (And.intro d3 (And.intro d4 d5)))); have T1 := blk_kept HX.out.1.hT d4.kept (by rintro (e | e); exact hTb e; exact hTv e); have HQ := Aside0.mk (nfd_calls D T sb VB (.pointer none) (.slice none 0 0) (some ⟨X, 0, none⟩) 0 0 0 1 2 0 0 0 (by decide) w1 T1 d1 d2 (.inl ⟨rfl, rfl⟩) ((blk_cell d3 1).trans rfl) ((blk_cell d3 2).trans rfl) (Nat.le_refl _) (fun e => (blk_ne d3 d1 (show (136 : Nat) ≠ 108 by decide)) e)); have ET := Aside0.mk T1; clear d1 d2 d3 d4 d5 T1) | (go_at_call 21; refine HQ.out.mono ?_; rintro e w2 ⟨A, rfl, f1, f2, f3, f4⟩; have F := Aside0.mk (And.intro f1 (And.intro f2 (And.intro f3 f4))); have HR := Aside0.mk (drel_calls D T sb 2 1 0 0 0 (by decide) (by decide) (by decide) w2 f3); clear f1 f2 f3 f4) | (go_at_call 42; refine HR.out.mono ?_; rintro e w3 ⟨rfl, g1, g2⟩; have G := Aside0.mk (And.intro g1 g2); clear g1 g2))
    go_ret
    obtain ⟨d1, d2, d3, d4, d5, d6, d7, d8⟩ := E.out
    obtain ⟨f1, f2, f3, f4⟩ := F.out
    obtain ⟨g1, g2⟩ := G.out
    obtain ⟨hh, hlo, hU⟩ := HX.out
    have hs1 := tn_lt d4
    have hs2 := tn_lt f4
    have hDl := blk_lt d1
    have hTD : T ≠ D := by omega
    have hsD : sb ≠ D := blk_ne d2 d1 (show (83 : Nat) ≠ 108 by decide)
    have hVD : VB ≠ D := blk_ne d3 d1 (show (136 : Nat) ≠ 108 by decide)
    have hAD : A ≠ D := by omega
    refine ⟨A, D, _, _, rfl, blk_kept f2 g2.kept hAD, .inl ⟨rfl, T, sb, VB, X, g1, blk_kept (blk_kept ET.out f4.kept hTD) g2.kept hTD, blk_kept (blk_kept d2 f4.kept hsD) g2.kept hsD, blk_kept (blk_kept d3 f4.kept hVD) g2.kept hVD, by omega⟩, ?_, by omega⟩
    have q1 : Below B0 w w1 := d4.below (by omega) (by rintro k (e | e) <;> omega)
    have q2 : Below B0 w1 w2 := f4.below (by omega) (by rintro k e; omega)
    have q3 : Below B0 w2 w3 := g2.below (by omega) (by rintro k e; omega)
    exact q1.trans (q2.trans q3)
  · by_cases hxs : xs = []
    · exfalso
      have e1 := hh.bd.hb
      rw [(h0 hxs).hb] at e1
      simp [bO] at e1
    · have hk : 0 < xs.length := List.length_pos_iff.2 hxs
      have hL := hh.inv.len
      have hle := hh.inv.le
      have HN := Aside0.mk (nd_full b T vb NB NR VB VR nulls xs.length C m bm vl q w hh.bd hk (by omega) hL.2.1)
      have hTl := blk_lt hh.bd.hT
      have hbl := blk_lt hh.bd.hb
      have hvl := blk_lt hh.bd.hv
      have hTb : T ≠ b := blk_ne hh.bd.hT hh.bd.hb (show (56 : Nat) ≠ 89 by decide)
      have hTv : T ≠ vb := blk_ne hh.bd.hT hh.bd.hv (show (56 : Nat) ≠ 95 by decide)
      have hTN : T ≠ NB := blk_ne hh.bd.hT hh.bd.hn.h (show (56 : Nat) ≠ 136 by decide)
      have hTV : T ≠ VB := blk_ne hh.bd.hT hh.bd.hw.h (show (56 : Nat) ≠ 136 by decide)
      have hc3 : 3 * xs.length ≤ vl.length := by omega
      have hmb : m ≤ bm.length := by rw [hh.inv.bl]; omega
      have HX := Aside0.mk (And.intro hh (And.intro hlo hU))
      clear hh hlo hhi hU hL hle h0
      go_enter Tryz.func23, Tryz.ntmps23
      go_wp2_with (first | (go_at_call 41; refine HN.out.mono ?_; rintro e w1 ⟨D, sb, VR', rfl, d1, d2, d3, d4, d5, d6⟩; have E := Aside0.mk (And.intro d1 (And.intro d2 (And.intro d3 (And.intro d4 (And.intro d5 d6))))); have T1 := blk_kept HX.out.1.bd.hT d5.kept (by rintro (e | e | e | e); exact hTb e; exact hTv e; exact hTN e; exact hTV e); have HQ := Aside0.mk (nfd_calls D T sb VB (ptr NB) (.slice (some ⟨NR, 0, none⟩) m bm.length) (some ⟨VR', 0, none⟩) (3 * xs.length) vl.length vl.length 1 2 nulls 0 xs.length (by decide) w1 T1 d1 d2 (.inr ⟨NB, NR, 1, m, bm, rfl, d3, hmb, rfl⟩) ((blk_cell d4.h 1).trans rfl) ((blk_cell d4.h 2).trans rfl) hc3 (fun e => (blk_ne d4.h d1 (show (136 : Nat) ≠ 108 by decide)) e)); have ET := Aside0.mk T1; clear d1 d2 d3 d4 d5 d6 T1) | (go_at_call 21; refine HQ.out.mono ?_; rintro e w2 ⟨A, rfl, f1, f2, f3, f4⟩; have F := Aside0.mk (And.intro f1 (And.intro f2 (And.intro f3 f4))); have HR := Aside0.mk (drel_calls D T sb 2 1 nulls 0 xs.length (by decide) (by decide) (by decide) w2 f3); clear f1 f2 f3 f4) | (go_at_call 42; refine HR.out.mono ?_; rintro e w3 ⟨rfl, g1, g2⟩; have G := Aside0.mk (And.intro g1 g2); clear g1 g2))
      go_ret
      obtain ⟨d1, d2, d3, d4, d5, d6, d7, d8⟩ := E.out
      obtain ⟨f1, f2, f3, f4⟩ := F.out
      obtain ⟨g1, g2⟩ := G.out
      obtain ⟨hh, hlo, hU⟩ := HX.out
      have hs1 := tn_lt d5
      have hs2 := tn_lt f4
      have hDl := blk_lt d1
      have hlo2 := hh.lo
      have hTD : T ≠ D := by omega
      have hsD : sb ≠ D := blk_ne d2 d1 (show (83 : Nat) ≠ 108 by decide)
      have hVD : VB ≠ D := blk_ne d4.h d1 (show (136 : Nat) ≠ 108 by decide)
      have hND : NB ≠ D := blk_ne d3.h d1 (show (136 : Nat) ≠ 108 by decide)
      have hVrD : VR' ≠ D := blk_ne d4.r d1 (show (5 : Nat) ≠ 108 by decide)
      have hNrD : NR ≠ D := blk_ne d3.r d1 (show (5 : Nat) ≠ 108 by decide)
      have hAD : A ≠ D := by omega
      refine ⟨A, D, _, _, rfl, blk_kept f2 g2.kept hAD, .inr ⟨hxs, T, sb, NB, NR, VB, VR', nulls, C, m, bm, vl, nulls, ⟨g1, blk_kept (blk_kept ET.out f4.kept hTD) g2.kept hTD, blk_kept (blk_kept d2 f4.kept hsD) g2.kept hsD, (d3.kept f4.kept hND hNrD).kept g2.kept hND hNrD, (d4.kept f4.kept hVD hVrD).kept g2.kept hVD hVrD, hh.inv, hh.bd.n1, by omega⟩⟩, ?_, by omega⟩
      have q1 : Below B0 w w1 := d5.below (by omega) (by rintro k (e | e | e | e) <;> omega)
      have q2 : Below B0 w1 w2 := f4.below (by omega) (by rintro k e; omega)
      have q3 : Below B0 w2 w3 := g2.below (by omega) (by rintro k e; omega)
      exact q1.trans (q2.trans q3)
end Go.Proofs.YtndbeeboehekaaaGreatDoor.Q

/- A slice of data: NewSliceData. -/
namespace Go.Proofs.YtndbeeboehekaaaGreatDoor.Q
open Go.RowKit Go.Proofs.YtndbeeboehekaaaGreatDoorW.PrintWords Go.Proofs.YtndbeeboehekaaaGreatDoorW.PrintLast Go.Proofs.YtndbeeboehekaaaGreatDoorW.PrintMore
set_option linter.unusedVariables false
set_option linter.unusedSimpArgs false
set_option maxHeartbeats 2000000 in
set_option maxRecDepth 100000 in
theorem nsd_full (D T sb NB VB : Nat) (s1 s2 : Value) (q1 q2 nl : Int) (i j k : Nat) (hij : i ≤ j) (hjk : j ≤ k) (hk : k ≤ 1000) (w : World) (hD : w.heap[D]? = some (dataO 1 T nl 0 k sb)) (hs : w.heap[sb]? = some (bsO (ptr NB) (ptr VB))) (hn : w.heap[NB]? = some (bufH 1 s1 q1)) (hv : w.heap[VB]? = some (bufH 1 s2 q2)) (hne : NB ≠ VB) :
    Calls Tryz.prog 22 #[.iface 69 (ptr D), .int .i64 i, .int .i64 j] w fun e w' => ∃ D2 nl2, e = .returned (.iface 69 (ptr D2)) ∧ w.heap.size ≤ D2 ∧ w'.heap[D2]? = some (dataO 1 T nl2 i (j - i : Nat) sb) ∧ w'.heap[NB]? = some (bufH 2 s1 q1) ∧ w'.heap[VB]? = some (bufH 2 s2 q2) ∧ Tn (fun k => k = NB ∨ k = VB) w w' := by
  have HLn := fun W (hW : W.heap[D]? = some (dataO 1 T nl 0 k sb)) => dlen_calls D T sb 1 nl 0 k W hW
  have HOf := fun W (hW : W.heap[D]? = some (dataO 1 T nl 0 k sb)) => doff_calls D T sb 1 nl 0 k W hW
  have h1 := fun (a : Addr) (W : World) => (show (nilAhead 177 69 (.pointer (some a)) "Len").run Tryz.prog W = .ok (some false) W by kernel_rfl)
  have h2 := fun (a : Addr) (W : World) => (show (method 177 69 (.pointer (some a)) "Len").run Tryz.prog W = .ok (147, .pointer (some a)) W by kernel_rfl)
  have h3 := fun (a : Addr) (W : World) => (show (nilAhead 177 69 (.pointer (some a)) "Offset").run Tryz.prog W = .ok (some false) W by kernel_rfl)
  have h4 := fun (a : Addr) (W : World) => (show (method 177 69 (.pointer (some a)) "Offset").run Tryz.prog W = .ok (132, .pointer (some a)) W by kernel_rfl)
  have h5 := fun (a : Addr) (W : World) => (show (nilAhead 177 69 (.pointer (some a)) "Buffers").run Tryz.prog W = .ok (some false) W by kernel_rfl)
  have h6 := fun (a : Addr) (W : World) => (show (method 177 69 (.pointer (some a)) "Buffers").run Tryz.prog W = .ok (143, .pointer (some a)) W by kernel_rfl)
  have h7 := fun (a : Addr) (W : World) => (show (nilAhead 177 69 (.pointer (some a)) "Children").run Tryz.prog W = .ok (some false) W by kernel_rfl)
  have h8 := fun (a : Addr) (W : World) => (show (method 177 69 (.pointer (some a)) "Children").run Tryz.prog W = .ok (144, .pointer (some a)) W by kernel_rfl)
  have h9 := fun (a : Addr) (W : World) => (show (nilAhead 177 69 (.pointer (some a)) "DataType").run Tryz.prog W = .ok (some false) W by kernel_rfl)
  have h10 := fun (a : Addr) (W : World) => (show (method 177 69 (.pointer (some a)) "DataType").run Tryz.prog W = .ok (145, .pointer (some a)) W by kernel_rfl)
  have h11 := fun (a : Addr) (W : World) => (show (nilAhead 177 69 (.pointer (some a)) "NullN").run Tryz.prog W = .ok (some false) W by kernel_rfl)
  have h12 := fun (a : Addr) (W : World) => (show (method 177 69 (.pointer (some a)) "NullN").run Tryz.prog W = .ok (148, .pointer (some a)) W by kernel_rfl)
  have h13 := fun (a : Addr) (W : World) => (show (Instr.typeAssert (.iface 69 (.pointer (some a))) 61 69 false).run Tryz.prog W = .ok (.pointer (some a)) W by kernel_rfl)
  have g1 : decide ((i : Int) < 0) = false := decide_eq_false (by omega)
  have g2 : decide ((j : Int) < 0) = false := decide_eq_false (by omega)
  have g3 : decide ((j : Int) > (k : Int)) = false := decide_eq_false (by omega)
  have g3' : decide ((k : Int) < (j : Int)) = false := decide_eq_false (by omega)
  have g4 : decide ((i : Int) > (j : Int)) = false := decide_eq_false (by omega)
  have g4' : decide ((j : Int) < (i : Int)) = false := decide_eq_false (by omega)
  have g5 : decide ((i : Int) > (k : Int)) = false := decide_eq_false (by omega)
  have g5' : decide ((k : Int) < (i : Int)) = false := decide_eq_false (by omega)
  have hL := Aside0.mk (HLn w hD)
  have hO := Aside0.mk (HOf w hD)
  have hB := Aside0.mk (dbuf_calls D T sb 1 nl 0 k w hD)
  have hsn : sb ≠ NB := blk_ne hs hn (show (83 : Nat) ≠ 136 by decide)
  have hw1 : IntKind.i64.wrap ((j : Int) - (i : Int)) = ((j - i : Nat) : Int) := by rw [IntKind.wrap_i64]; omega
  have hw2 : IntKind.i64.wrap (0 + (i : Int)) = (i : Int) := by rw [IntKind.wrap_i64]; omega
  have hDN : D ≠ NB := blk_ne hD hn (show (108 : Nat) ≠ 136 by decide)
  have hDV : D ≠ VB := blk_ne hD hv (show (108 : Nat) ≠ 136 by decide)
  have c0 : w.cell? ⟨sb, 0, none⟩ = some (ptr NB) := (blk_cell hs 0).trans rfl
  have c1 : w.cell? ⟨sb, 1, none⟩ = some (ptr VB) := (blk_cell hs 1).trans rfl
  have HR1 := Aside0.mk (retain_calls NB s1 1 2 q1 (by decide) w hn)
  have HR := Aside0.mk (fun W (hW : W.heap[VB]? = some (bufH 1 s2 q2)) => retain_calls VB s2 1 2 q2 (by decide) W hW)
  have HX := Aside0.mk (And.intro hD (And.intro hs (And.intro hn hv)))
  have hvn : VB ≠ NB := fun e => hne e.symm
  clear hD hs hn hv HLn HOf
  go_enter Tryz.func22, Tryz.ntmps22
  go_wp2_with (first | (go_at_call 147; refine hL.out.mono ?_; rintro e w' ⟨rfl, hw1⟩; subst w') | (go_at_call 132; refine hO.out.mono ?_; rintro e w' ⟨rfl, hw1⟩; subst w') | (go_at_call 143; refine hB.out.mono ?_; rintro e w' ⟨rfl, hw1⟩; subst w'))
  clear h1 h2 h3 h4 h5 h6 g1 g2 g3 g3' g4 g4' g5 g5' hL hO hB
  refine wp_loop_rounds 3 ?_
  rw [rounds_succ]
  go_wp2_with (first | (go_at_call 39; refine HR2.out.mono ?_; rintro e w2 ⟨rfl, e1, e2⟩; have E2 := Aside0.mk (And.intro e1 e2); clear e1 e2) | (go_at_call 39; refine HR1.out.mono ?_; rintro e w1 ⟨rfl, e1, e2⟩; have d1 := cell_kept c1 e2.kept hsn; have HR2 := Aside0.mk (HR.out w1 (blk_kept HX.out.2.2.2 e2.kept hvn)); have E1 := Aside0.mk (And.intro e1 e2); clear e1 e2))
  rw [rounds_succ]
  go_wp2_with (first | (go_at_call 39; refine HR2.out.mono ?_; rintro e w2 ⟨rfl, e1, e2⟩; have E2 := Aside0.mk (And.intro e1 e2); clear e1 e2) | (go_at_call 39; refine HR1.out.mono ?_; rintro e w1 ⟨rfl, e1, e2⟩; have d1 := cell_kept c1 e2.kept hsn; have HR2 := Aside0.mk (HR.out w1 (blk_kept HX.out.2.2.2 e2.kept hvn)); have E1 := Aside0.mk (And.intro e1 e2); clear e1 e2))
  have d2 : w2.heap[D]? = some (dataO 1 T nl 0 k sb) := blk_kept (blk_kept HX.out.1 E1.out.2.kept hDN) E2.out.2.kept hDV
  have hCh := Aside0.mk (dchi_calls D T sb 1 nl 0 k w2 d2)
  have b1 := Aside0.mk (dty_calls D T sb 1 nl 0 k w2.drew (blk_drewN d2 1))
  have b2 := Aside0.mk (doff_calls D T sb 1 nl 0 k w2.drew (blk_drewN d2 1))
  have b3 := Aside0.mk (dbuf_calls D T sb 1 nl 0 k w2.drew (blk_drewN d2 1))
  have b4 := Aside0.mk (dchi_calls D T sb 1 nl 0 k w2.drew (blk_drewN d2 1))
  have cD7 : w2.cell? ⟨D, 7, none⟩ = some (.pointer none) := (blk_cell d2 7).trans rfl
  clear d2
  rw [rounds_succ]
  go_wp2_with (first | (go_at_call 144; refine hCh.out.mono ?_; rintro e w' ⟨rfl, hw1⟩; subst w'))
  refine wp_loop_rounds 1 ?_
  rw [rounds_succ]
  go_wp2
  have m0 := fun (a : Addr) (W : World) => (show (method 299 69 (.pointer (some a)) "DataType").run Tryz.prog W = .ok (145, .pointer (some a)) W by kernel_rfl)
  have n0 := fun (a : Addr) (W : World) => (show (nilAhead 299 69 (.pointer (some a)) "DataType").run Tryz.prog W = .ok (some false) W by kernel_rfl)
  have m1 := fun (a : Addr) (W : World) => (show (method 299 69 (.pointer (some a)) "Offset").run Tryz.prog W = .ok (132, .pointer (some a)) W by kernel_rfl)
  have n1 := fun (a : Addr) (W : World) => (show (nilAhead 299 69 (.pointer (some a)) "Offset").run Tryz.prog W = .ok (some false) W by kernel_rfl)
  have m2 := fun (a : Addr) (W : World) => (show (method 299 69 (.pointer (some a)) "Buffers").run Tryz.prog W = .ok (143, .pointer (some a)) W by kernel_rfl)
  have n2 := fun (a : Addr) (W : World) => (show (nilAhead 299 69 (.pointer (some a)) "Buffers").run Tryz.prog W = .ok (some false) W by kernel_rfl)
  have m3 := fun (a : Addr) (W : World) => (show (method 299 69 (.pointer (some a)) "Children").run Tryz.prog W = .ok (144, .pointer (some a)) W by kernel_rfl)
  have n3 := fun (a : Addr) (W : World) => (show (nilAhead 299 69 (.pointer (some a)) "Children").run Tryz.prog W = .ok (some false) W by kernel_rfl)
  go_still_tail 19, (by kernel_rfl)
  still_call b1.out
  repeat still_step
  still_call b2.out
  repeat still_step
  still_call b3.out
  repeat still_step
  still_call b4.out
  repeat still_step
  try refine wpStill_nil ?_
  change wpList _ _ _ _ _ w2.drew
  clear m0 m1 m2 m3 n0 n1 n2 n3 b1 b2 b3 b4 cD7 hCh
  have hNl := Aside0.mk (fun W (hW : W.heap[D]? = some (dataO 1 T nl 0 k sb)) => dnul_calls D T sb 1 nl 0 k W hW)
  have d2 := Aside0.mk (blk_kept (blk_kept HX.out.1 E1.out.2.kept hDN) E2.out.2.kept hDV)
  have hA : ∀ W : World, W = ((w2.alloc (.cells #[.int .i64 0, .iface 54 (.pointer (some ⟨T, 0, none⟩)), .int .i64 (-1), .int .i64 i, .int .i64 (j - i : Nat), .slice (some ⟨sb, 0, none⟩) 2 2, .slice none 0 0, .pointer none] 108)).drew).setCell ⟨w2.heap.size, 0, none⟩ (.int .i64 1) → W.heap[w2.heap.size]? = some (dataO 1 T (-1) i (j - i : Nat) sb) ∧ Tn (fun _ => False) w2 W := fun W hW => by
    subst hW
    refine ⟨blk_set (blk_drewN (blk_new w2 _) 1) 0 _, ?_⟩
    exact (((Tn.refl (fun _ => False) w2).alloc _).drewN 1).setCell (p := ⟨w2.heap.size, 0, none⟩) (.inr (Nat.le_refl _)) _
  go_wp2_with (first | (go_at_call 33; refine (add_calls ⟨_, 0, none⟩ 0 1 1 (by decide) _ ((blk_cell (blk_drewN (blk_new _ _) 1) 0).trans rfl) (blk_frozen (blk_drewN (blk_new _ _) 1) 0)).mono ?_; rintro e w3 ⟨rfl, hw3⟩; have a3 := hA w3 hw3; have hN3 := Aside0.mk (hNl.out w3 (blk_kept d2.out a3.2.kept id)); have z3 := blk_frozen a3.1 2; have y3 : w3.cell? ⟨w2.heap.size, 2, none⟩ = some (.int .i64 (-1)) := (blk_cell a3.1 2).trans rfl; have A3 := Aside0.mk a3; clear hw3 a3) | (go_at_call 148; refine hN3.out.mono ?_; rintro e w' ⟨rfl, hw1⟩; subst w'))
  all_goals go_ret
  all_goals obtain ⟨e1, e2⟩ := E1.out
  all_goals obtain ⟨f1, f2⟩ := E2.out
  all_goals obtain ⟨a1, a2⟩ := A3.out
  all_goals (have t1 : Tn (fun k => k = NB ∨ k = VB) w w3 := ((e2.mono (fun k hk => .inl hk)).then_ f2 (fun k hk => .inl (.inr hk))).then_ a2 (fun k hk => hk.elim))
  all_goals have k1 := blk_kept (blk_kept e1 f2.kept hne) a2.kept id
  all_goals have k2 := blk_kept f1 a2.kept id
  all_goals have l1 := tn_lt e2
  all_goals have l2 := tn_lt f2
  all_goals have l3 := blk_lt (blk_kept e1 f2.kept hne)
  all_goals have l4 := blk_lt f1
  · refine ⟨w2.heap.size, 0, rfl, by omega, blk_set a1 2 (.int .i64 0), blk_far k1 (p := ⟨w2.heap.size, 2, none⟩) (by show NB ≠ w2.heap.size; omega) _, blk_far k2 (p := ⟨w2.heap.size, 2, none⟩) (by show VB ≠ w2.heap.size; omega) _, t1.setCell (p := ⟨w2.heap.size, 2, none⟩) (.inr (by show w.heap.size ≤ w2.heap.size; omega)) _⟩
  · exact ⟨w2.heap.size, -1, rfl, by omega, a1, k1, k2, t1⟩
set_option maxHeartbeats 2000000 in
set_option maxRecDepth 100000 in
theorem nsd_none (D T sb VB : Nat) (s2 : Value) (q2 : Int) (w : World) (hD : w.heap[D]? = some (dataO 1 T 0 0 0 sb)) (hs : w.heap[sb]? = some (bsO (.pointer none) (ptr VB))) (hv : w.heap[VB]? = some (bufN s2 q2)) :
    Calls Tryz.prog 22 #[.iface 69 (ptr D), .int .i64 0, .int .i64 0] w fun e w' => ∃ D2, e = .returned (.iface 69 (ptr D2)) ∧ w.heap.size ≤ D2 ∧ w'.heap[D2]? = some (dataO 1 T 0 0 0 sb) ∧ Tn (fun k => False) w w' := by
  have HLn := fun W (hW : W.heap[D]? = some (dataO 1 T 0 0 0 sb)) => dlen_calls D T sb 1 0 0 0 W hW
  have HOf := fun W (hW : W.heap[D]? = some (dataO 1 T 0 0 0 sb)) => doff_calls D T sb 1 0 0 0 W hW
  have h1 := fun (a : Addr) (W : World) => (show (nilAhead 177 69 (.pointer (some a)) "Len").run Tryz.prog W = .ok (some false) W by kernel_rfl)
  have h2 := fun (a : Addr) (W : World) => (show (method 177 69 (.pointer (some a)) "Len").run Tryz.prog W = .ok (147, .pointer (some a)) W by kernel_rfl)
  have h3 := fun (a : Addr) (W : World) => (show (nilAhead 177 69 (.pointer (some a)) "Offset").run Tryz.prog W = .ok (some false) W by kernel_rfl)
  have h4 := fun (a : Addr) (W : World) => (show (method 177 69 (.pointer (some a)) "Offset").run Tryz.prog W = .ok (132, .pointer (some a)) W by kernel_rfl)
  have h5 := fun (a : Addr) (W : World) => (show (nilAhead 177 69 (.pointer (some a)) "Buffers").run Tryz.prog W = .ok (some false) W by kernel_rfl)
  have h6 := fun (a : Addr) (W : World) => (show (method 177 69 (.pointer (some a)) "Buffers").run Tryz.prog W = .ok (143, .pointer (some a)) W by kernel_rfl)
  have h7 := fun (a : Addr) (W : World) => (show (nilAhead 177 69 (.pointer (some a)) "Children").run Tryz.prog W = .ok (some false) W by kernel_rfl)
  have h8 := fun (a : Addr) (W : World) => (show (method 177 69 (.pointer (some a)) "Children").run Tryz.prog W = .ok (144, .pointer (some a)) W by kernel_rfl)
  have h9 := fun (a : Addr) (W : World) => (show (nilAhead 177 69 (.pointer (some a)) "DataType").run Tryz.prog W = .ok (some false) W by kernel_rfl)
  have h10 := fun (a : Addr) (W : World) => (show (method 177 69 (.pointer (some a)) "DataType").run Tryz.prog W = .ok (145, .pointer (some a)) W by kernel_rfl)
  have h11 := fun (a : Addr) (W : World) => (show (nilAhead 177 69 (.pointer (some a)) "NullN").run Tryz.prog W = .ok (some false) W by kernel_rfl)
  have h12 := fun (a : Addr) (W : World) => (show (method 177 69 (.pointer (some a)) "NullN").run Tryz.prog W = .ok (148, .pointer (some a)) W by kernel_rfl)
  have h13 := fun (a : Addr) (W : World) => (show (Instr.typeAssert (.iface 69 (.pointer (some a))) 61 69 false).run Tryz.prog W = .ok (.pointer (some a)) W by kernel_rfl)
  have hL := Aside0.mk (HLn w hD)
  have hO := Aside0.mk (HOf w hD)
  have hB := Aside0.mk (dbuf_calls D T sb 1 0 0 0 w hD)
  have hDV : D ≠ VB := blk_ne hD hv (show (108 : Nat) ≠ 136 by decide)
  have c0 : w.cell? ⟨sb, 0, none⟩ = some (.pointer none) := (blk_cell hs 0).trans rfl
  have c1 : w.cell? ⟨sb, 1, none⟩ = some (ptr VB) := (blk_cell hs 1).trans rfl
  have HR := Aside0.mk (retain_none VB s2 q2 w hv)
  have HX := Aside0.mk (And.intro hD (And.intro hs hv))
  clear hD hs hv HLn HOf
  go_enter Tryz.func22, Tryz.ntmps22
  go_wp2_with (first | (go_at_call 147; refine hL.out.mono ?_; rintro e w' ⟨rfl, hw1⟩; subst w') | (go_at_call 132; refine hO.out.mono ?_; rintro e w' ⟨rfl, hw1⟩; subst w') | (go_at_call 143; refine hB.out.mono ?_; rintro e w' ⟨rfl, hw1⟩; subst w'))
  clear h1 h2 h3 h4 h5 h6 hL hO hB
  refine wp_loop_rounds 3 ?_
  rw [rounds_succ]
  go_wp2_with (first | (go_at_call 39; refine HR.out.mono ?_; rintro e w' ⟨rfl, hw1⟩; subst w'))
  rw [rounds_succ]
  go_wp2_with (first | (go_at_call 39; refine HR.out.mono ?_; rintro e w' ⟨rfl, hw1⟩; subst w'))
  have d2 : w.heap[D]? = some (dataO 1 T 0 0 0 sb) := HX.out.1
  have hCh := Aside0.mk (dchi_calls D T sb 1 0 0 0 w d2)
  have b1 := Aside0.mk (dty_calls D T sb 1 0 0 0 w.drew (blk_drewN d2 1))
  have b2 := Aside0.mk (doff_calls D T sb 1 0 0 0 w.drew (blk_drewN d2 1))
  have b3 := Aside0.mk (dbuf_calls D T sb 1 0 0 0 w.drew (blk_drewN d2 1))
  have b4 := Aside0.mk (dchi_calls D T sb 1 0 0 0 w.drew (blk_drewN d2 1))
  have cD7 : w.cell? ⟨D, 7, none⟩ = some (.pointer none) := (blk_cell d2 7).trans rfl
  clear d2
  rw [rounds_succ]
  go_wp2_with (first | (go_at_call 144; refine hCh.out.mono ?_; rintro e w' ⟨rfl, hw1⟩; subst w'))
  refine wp_loop_rounds 1 ?_
  rw [rounds_succ]
  go_wp2
  have m0 := fun (a : Addr) (W : World) => (show (method 299 69 (.pointer (some a)) "DataType").run Tryz.prog W = .ok (145, .pointer (some a)) W by kernel_rfl)
  have n0 := fun (a : Addr) (W : World) => (show (nilAhead 299 69 (.pointer (some a)) "DataType").run Tryz.prog W = .ok (some false) W by kernel_rfl)
  have m1 := fun (a : Addr) (W : World) => (show (method 299 69 (.pointer (some a)) "Offset").run Tryz.prog W = .ok (132, .pointer (some a)) W by kernel_rfl)
  have n1 := fun (a : Addr) (W : World) => (show (nilAhead 299 69 (.pointer (some a)) "Offset").run Tryz.prog W = .ok (some false) W by kernel_rfl)
  have m2 := fun (a : Addr) (W : World) => (show (method 299 69 (.pointer (some a)) "Buffers").run Tryz.prog W = .ok (143, .pointer (some a)) W by kernel_rfl)
  have n2 := fun (a : Addr) (W : World) => (show (nilAhead 299 69 (.pointer (some a)) "Buffers").run Tryz.prog W = .ok (some false) W by kernel_rfl)
  have m3 := fun (a : Addr) (W : World) => (show (method 299 69 (.pointer (some a)) "Children").run Tryz.prog W = .ok (144, .pointer (some a)) W by kernel_rfl)
  have n3 := fun (a : Addr) (W : World) => (show (nilAhead 299 69 (.pointer (some a)) "Children").run Tryz.prog W = .ok (some false) W by kernel_rfl)
  go_still_tail 19, (by kernel_rfl)
  still_call b1.out
  repeat still_step
  still_call b2.out
  repeat still_step
  still_call b3.out
  repeat still_step
  still_call b4.out
  repeat still_step
  try refine wpStill_nil ?_
  change wpList _ _ _ _ _ w.drew
  clear m0 m1 m2 m3 n0 n1 n2 n3 b1 b2 b3 b4 cD7 hCh
  have hNl := Aside0.mk (fun W (hW : W.heap[D]? = some (dataO 1 T 0 0 0 sb)) => dnul_calls D T sb 1 0 0 0 W hW)
  have d2 := Aside0.mk HX.out.1
  have hA : ∀ W : World, W = ((w.alloc (.cells #[.int .i64 0, .iface 54 (.pointer (some ⟨T, 0, none⟩)), .int .i64 (-1), .int .i64 0, .int .i64 0, .slice (some ⟨sb, 0, none⟩) 2 2, .slice none 0 0, .pointer none] 108)).drew).setCell ⟨w.heap.size, 0, none⟩ (.int .i64 1) → W.heap[w.heap.size]? = some (dataO 1 T (-1) 0 0 sb) ∧ Tn (fun _ => False) w W := fun W hW => by
    subst hW
    refine ⟨blk_set (blk_drewN (blk_new w _) 1) 0 _, ?_⟩
    exact (((Tn.refl (fun _ => False) w).alloc _).drewN 1).setCell (p := ⟨w.heap.size, 0, none⟩) (.inr (Nat.le_refl _)) _
  go_wp2_with (first | (go_at_call 33; refine (add_calls ⟨_, 0, none⟩ 0 1 1 (by decide) _ ((blk_cell (blk_drewN (blk_new _ _) 1) 0).trans rfl) (blk_frozen (blk_drewN (blk_new _ _) 1) 0)).mono ?_; rintro e w3 ⟨rfl, hw3⟩; have a3 := hA w3 hw3; have hN3 := Aside0.mk (hNl.out w3 (blk_kept d2.out a3.2.kept id)); have z3 := blk_frozen a3.1 2; have y3 : w3.cell? ⟨w.heap.size, 2, none⟩ = some (.int .i64 (-1)) := (blk_cell a3.1 2).trans rfl; have A3 := Aside0.mk a3; clear hw3 a3) | (go_at_call 148; refine hN3.out.mono ?_; rintro e w' ⟨rfl, hw1⟩; subst w'))
  go_ret
  obtain ⟨a1, a2⟩ := A3.out
  exact ⟨w.heap.size, rfl, Nat.le_refl _, blk_set a1 2 (.int .i64 0), a2.setCell (p := ⟨w.heap.size, 2, none⟩) (.inr (Nat.le_refl _)) _⟩
end Go.Proofs.YtndbeeboehekaaaGreatDoor.Q
