/- Bits that are told, one by one or by thirty-two. -/
import Derived.Test.YtgccaabpckfhlaaGreatDoorZg
import Derived.Test.YtgccaabpckfhlaaGreatDoorZh
namespace Go.Proofs.YtgccaabpckfhlaaGreatDoor.Q
open Go.RowKit Go.Proofs.YtgccaabpckfhlaaGreatDoorW.PrintWords Go.Proofs.YtgccaabpckfhlaaGreatDoorW.PrintLast Go.Proofs.YtgccaabpckfhlaaGreatDoorW.PrintMore
set_option linter.unusedVariables false
set_option linter.unusedSimpArgs false
def bitAt (bs : List Int) (p : Nat) : Bool := (bs.getD (p / 8) 0).toNat / 2 ^ (p % 8) % 2 == 1
def BytesOk (bs : List Int) : Prop := ∀ x ∈ bs, 0 ≤ x ∧ x ≤ 255
structure Told (b : Nat → Bool) (f k : Nat) (bs0 bs : List Int) : Prop where
  len : bs.length = bs0.length
  ok : BytesOk bs
  ahead : ∀ p, p < f → bitAt bs p = bitAt bs0 p
  told : ∀ i, i < k → bitAt bs (f + i) = b i
  behind : ∀ p, f + k ≤ p → bitAt bs p = bitAt bs0 p
theorem bits_all : (List.range 256).all (fun x => (List.range 8).all fun r => [true, false].all fun v => (0 ≤ bitTo x r v && bitTo x r v ≤ 255) && (List.range 8).all fun r' => ((bitTo x r v).toNat / 2 ^ r' % 2 == 1) == (if r' = r then v else (x / 2 ^ r' % 2 == 1))) = true := by decide +kernel
theorem bit_one (x : Int) (hx : 0 ≤ x ∧ x ≤ 255) (r : Nat) (hr : r < 8) (v : Bool) : (0 ≤ bitTo x r v ∧ bitTo x r v ≤ 255) ∧ ∀ r', r' < 8 → ((bitTo x r v).toNat / 2 ^ r' % 2 == 1) = (if r' = r then v else (x.toNat / 2 ^ r' % 2 == 1)) := by
  obtain ⟨n, rfl⟩ := Int.eq_ofNat_of_zero_le hx.1
  have h := List.all_eq_true.1 bits_all n (List.mem_range.2 (by omega))
  have h := List.all_eq_true.1 h r (List.mem_range.2 hr)
  have h := List.all_eq_true.1 h v (by cases v <;> simp)
  rw [Bool.and_eq_true] at h
  refine ⟨by simpa using h.1, fun r' hr' => ?_⟩
  have h := List.all_eq_true.1 h.2 r' (List.mem_range.2 hr')
  simpa using h
theorem ok_set {bs : List Int} (h : BytesOk bs) (q : Nat) (x : Int) (hx : 0 ≤ x ∧ x ≤ 255) : BytesOk (bs.set q x) := fun y hy => by
  rcases List.mem_or_eq_of_mem_set hy with h1 | rfl
  · exact h y h1
  · exact hx
theorem ok_at {bs : List Int} (h : BytesOk bs) (q : Nat) : 0 ≤ bs.getD q 0 ∧ bs.getD q 0 ≤ 255 := by
  by_cases hq : q < bs.length
  · rw [List.getD_eq_getElem?_getD, List.getElem?_eq_getElem hq]
    exact h _ (List.getElem_mem hq)
  · rw [List.getD_eq_getElem?_getD, List.getElem?_eq_none (by omega)]
    simp
theorem bitAt_set (bs : List Int) (h : BytesOk bs) (q r : Nat) (hr : r < 8) (v : Bool) (hq : q < bs.length) (p : Nat) : bitAt (bs.set q (bitTo (bs.getD q 0) r v)) p = if p = 8 * q + r then v else bitAt bs p := by
  unfold bitAt
  by_cases hp : p / 8 = q
  · have hb := (bit_one (bs.getD q 0) (ok_at h q) r hr v).2 (p % 8) (Nat.mod_lt _ (by omega))
    rw [hp, show (bs.set q (bitTo (bs.getD q 0) r v)).getD q 0 = bitTo (bs.getD q 0) r v by rw [List.getD_eq_getElem?_getD, List.getElem?_set_self hq]; rfl, hb]
    by_cases h2 : p % 8 = r
    · rw [if_pos h2, if_pos (by omega)]
    · rw [if_neg h2, if_neg (by omega)]
  · rw [if_neg (by omega)]
    simp only [List.getD_eq_getElem?_getD]
    rw [List.getElem?_set_ne (by omega)]
theorem Told.bit {b : Nat → Bool} {f k : Nat} {bs0 bs : List Int} (h : Told b f k bs0 bs) (q r : Nat) (hp : f + k = 8 * q + r) (hr : r < 8) (hq : q < bs.length) (v : Bool) (hv : v = b k) : Told b f (k + 1) bs0 (bs.set q (bitTo (bs.getD q 0) r v)) := by
  refine ⟨by rw [List.length_set]; exact h.len, ok_set h.ok _ _ (bit_one _ (ok_at h.ok q) r hr v).1, fun p hp2 => ?_, fun i hi => ?_, fun p hp2 => by rw [bitAt_set bs h.ok q r hr v hq, if_neg (by omega)]; exact h.behind p (by omega)⟩
  · rw [bitAt_set bs h.ok q r hr v hq, if_neg (by omega)]
    exact h.ahead p hp2
  · rw [bitAt_set bs h.ok q r hr v hq]
    by_cases hik : i = k
    · subst hik
      rw [if_pos (by omega), hv]
    · rw [if_neg (by omega)]
      exact h.told i (by omega)
theorem byte_all : (List.range 256).all (fun n => (List.range 8).all fun r => ((n % 2 + 2 * (n / 2 % 2) + 4 * (n / 4 % 2) + 8 * (n / 8 % 2) + 16 * (n / 16 % 2) + 32 * (n / 32 % 2) + 64 * (n / 64 % 2) + 128 * (n / 128 % 2)) / 2 ^ r % 2) == n / 2 ^ r % 2) = true := by decide +kernel
theorem byte8_bits (us : List Int) (i : Nat) (b : Nat → Bool) (hb : ∀ r, r < 8 → us.getD (i + r) 0 = if b r then 1 else 0) : (0 ≤ byte8 us i ∧ byte8 us i ≤ 255) ∧ ∀ r, r < 8 → ((byte8 us i).toNat / 2 ^ r % 2 == 1) = b r := by
  have h0 := hb 0 (by omega)
  have h1 := hb 1 (by omega)
  have h2 := hb 2 (by omega)
  have h3 := hb 3 (by omega)
  have h4 := hb 4 (by omega)
  have h5 := hb 5 (by omega)
  have h6 := hb 6 (by omega)
  have h7 := hb 7 (by omega)
  rw [Nat.add_zero] at h0
  unfold byte8
  rw [h0, h1, h2, h3, h4, h5, h6, h7]
  have hr : ∀ r, r < 8 → b r = b r := fun _ _ => rfl
  have key : ∀ b0 b1 b2 b3 b4 b5 b6 b7 : Bool, (0 ≤ ((if b0 then 1 else 0) + 2 * (if b1 then 1 else 0) + 4 * (if b2 then 1 else 0) + 8 * (if b3 then 1 else 0) + 16 * (if b4 then 1 else 0) + 32 * (if b5 then 1 else 0) + 64 * (if b6 then 1 else 0) + 128 * (if b7 then 1 else 0) : Int) ∧ ((if b0 then 1 else 0) + 2 * (if b1 then 1 else 0) + 4 * (if b2 then 1 else 0) + 8 * (if b3 then 1 else 0) + 16 * (if b4 then 1 else 0) + 32 * (if b5 then 1 else 0) + 64 * (if b6 then 1 else 0) + 128 * (if b7 then 1 else 0) : Int) ≤ 255) ∧
      (fun n : Nat => (n / 2 ^ 0 % 2 == 1) = b0 ∧ (n / 2 ^ 1 % 2 == 1) = b1 ∧ (n / 2 ^ 2 % 2 == 1) = b2 ∧ (n / 2 ^ 3 % 2 == 1) = b3 ∧ (n / 2 ^ 4 % 2 == 1) = b4 ∧ (n / 2 ^ 5 % 2 == 1) = b5 ∧ (n / 2 ^ 6 % 2 == 1) = b6 ∧ (n / 2 ^ 7 % 2 == 1) = b7)
        ((if b0 then 1 else 0) + 2 * (if b1 then 1 else 0) + 4 * (if b2 then 1 else 0) + 8 * (if b3 then 1 else 0) + 16 * (if b4 then 1 else 0) + 32 * (if b5 then 1 else 0) + 64 * (if b6 then 1 else 0) + 128 * (if b7 then 1 else 0) : Int).toNat := by decide +kernel
  obtain ⟨k1, k2⟩ := key (b 0) (b 1) (b 2) (b 3) (b 4) (b 5) (b 6) (b 7)
  refine ⟨k1, fun r hr => ?_⟩
  obtain ⟨e0, e1, e2, e3, e4, e5, e6, e7⟩ := k2
  match r, hr with
  | 0, _ => exact e0
  | 1, _ => exact e1
  | 2, _ => exact e2
  | 3, _ => exact e3
  | 4, _ => exact e4
  | 5, _ => exact e5
  | 6, _ => exact e6
  | 7, _ => exact e7
theorem Told.byte {b : Nat → Bool} {f k : Nat} {bs0 bs : List Int} (h : Told b f k bs0 bs) (q : Nat) (hp : f + k = 8 * q) (hq : q < bs.length) (x : Int) (hx : 0 ≤ x ∧ x ≤ 255) (hv : ∀ r, r < 8 → (x.toNat / 2 ^ r % 2 == 1) = b (k + r)) : Told b f (k + 8) bs0 (bs.set q x) := by
  have hs : ∀ p, bitAt (bs.set q x) p = if p / 8 = q then (x.toNat / 2 ^ (p % 8) % 2 == 1) else bitAt bs p := by
    intro p
    unfold bitAt
    by_cases hp : p / 8 = q
    · rw [if_pos hp, hp, show (bs.set q x).getD q 0 = x by rw [List.getD_eq_getElem?_getD, List.getElem?_set_self hq]; rfl]
    · rw [if_neg hp]
      simp only [List.getD_eq_getElem?_getD]
      rw [List.getElem?_set_ne (by omega)]
  refine ⟨by rw [List.length_set]; exact h.len, ok_set h.ok _ _ hx, fun p hp2 => ?_, fun i hi => ?_, fun p hp2 => by rw [hs, if_neg (by omega)]; exact h.behind p (by omega)⟩
  · rw [hs, if_neg (by omega)]
    exact h.ahead p hp2
  · rw [hs]
    by_cases hik : k ≤ i
    · rw [if_pos (by omega), hv _ (by omega)]
      congr 1
      omega
    · rw [if_neg (by omega)]
      exact h.told i (by omega)
theorem Told.pack {b : Nat → Bool} {f k : Nat} {bs0 bs : List Int} (h : Told b f k bs0 bs) (us : List Int) (q : Nat) (hp : f + k = 8 * q) (hq : q + 4 ≤ bs.length) (hu : ∀ i, i < 32 → us.getD i 0 = if b (k + i) then 1 else 0) : Told b f (k + 32) bs0 (packs us q 4 bs) := by
  have step : ∀ j, j ≤ 4 → Told b f (k + 8 * j) bs0 (packs us q j bs) := by
    intro j
    induction j with
    | zero => intro _; exact h
    | succ j ih =>
      intro hj
      have hh := ih (by omega)
      have hb := byte8_bits us (8 * j) (fun r => b (k + 8 * j + r)) (fun r hr => by rw [hu _ (by omega)]; simp only [Nat.add_assoc])
      have := hh.byte (q + j) (by omega) (by rw [packs_len]; omega) (byte8 us (8 * j)) hb.1 hb.2
      rw [show k + 8 * (j + 1) = k + 8 * j + 8 by omega]
      exact this
  exact step 4 (by omega)
theorem byte_eq_all : (List.range 256).all (fun x => (List.range 256).all fun y => ((List.range 8).all fun r => (x / 2 ^ r % 2 == 1) == (y / 2 ^ r % 2 == 1)) == (x == y)) = true := by decide +kernel
theorem byte_eq (x y : Int) (hx : 0 ≤ x ∧ x ≤ 255) (hy : 0 ≤ y ∧ y ≤ 255) (h : ∀ r, r < 8 → (x.toNat / 2 ^ r % 2 == 1) = (y.toNat / 2 ^ r % 2 == 1)) : x = y := by
  obtain ⟨n, rfl⟩ := Int.eq_ofNat_of_zero_le hx.1
  obtain ⟨m, rfl⟩ := Int.eq_ofNat_of_zero_le hy.1
  have h2 := List.all_eq_true.1 (List.all_eq_true.1 byte_eq_all n (List.mem_range.2 (by omega))) m (List.mem_range.2 (by omega))
  have h3 : ((List.range 8).all fun r => (n / 2 ^ r % 2 == 1) == (m / 2 ^ r % 2 == 1)) = true := List.all_eq_true.2 fun r hr => by
    have := h r (List.mem_range.1 hr)
    simp only [Int.toNat_natCast] at this
    rw [this]; simp
  rw [h3] at h2
  have h4 : n = m := by simpa using h2
  rw [h4]
/-- What is told determines the bytes. -/
theorem Told.unique {b : Nat → Bool} {f k : Nat} {bs0 bs bs2 : List Int} (h : Told b f k bs0 bs) (h2 : Told b f k bs0 bs2) : bs = bs2 := by
  apply List.ext_getElem (by rw [h.len, h2.len])
  intro q h3 h4
  have e1 : bs[q] = bs.getD q 0 := by simp [h3]
  have e2 : bs2[q] = bs2.getD q 0 := by simp [h4]
  rw [e1, e2]
  refine byte_eq _ _ (ok_at h.ok q) (ok_at h2.ok q) fun r hr => ?_
  have e3 : bitAt bs (8 * q + r) = bitAt bs2 (8 * q + r) := by
    by_cases c1 : 8 * q + r < f
    · rw [h.ahead _ c1, h2.ahead _ c1]
    · by_cases c2 : 8 * q + r < f + k
      · have e : 8 * q + r = f + (8 * q + r - f) := by omega
        rw [e, h.told _ (by omega), h2.told _ (by omega)]
      · rw [h.behind _ (by omega), h2.behind _ (by omega)]
  unfold bitAt at e3
  rw [show (8 * q + r) / 8 = q by omega, show (8 * q + r) % 8 = r by omega] at e3
  exact e3
/-- The bytes that are told, made one bit at a time. -/
def tells (b : Nat → Bool) (f : Nat) : Nat → List Int → List Int
  | 0, bs => bs
  | k + 1, bs => (tells b f k bs).set ((f + k) / 8) (bitTo ((tells b f k bs).getD ((f + k) / 8) 0) ((f + k) % 8) (b k))
theorem tells_told (b : Nat → Bool) (f : Nat) (bs : List Int) (ok : BytesOk bs) : ∀ k, f + k ≤ 8 * bs.length → Told b f k bs (tells b f k bs)
  | 0, _ => ⟨rfl, ok, fun _ _ => rfl, fun i hi => absurd hi (by omega), fun _ _ => rfl⟩
  | k + 1, h => by
    have ih := tells_told b f bs ok k (by omega)
    exact ih.bit ((f + k) / 8) ((f + k) % 8) (by omega) (Nat.mod_lt _ (by omega)) (by rw [ih.len]; omega) (b k) rfl
end Go.Proofs.YtgccaabpckfhlaaGreatDoor.Q
