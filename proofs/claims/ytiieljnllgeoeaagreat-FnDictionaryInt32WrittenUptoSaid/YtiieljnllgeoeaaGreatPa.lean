/- Bytes and bits of numbers, plainly. -/
namespace Go.Proofs.YtiieljnllgeoeaaGreat.Q
/-- Bytes of a number, the lowest first. -/
def toB : Nat → Nat → List Int
 | 0, _ => []
 | k + 1, N => ((N % 256 : Nat) : Int) :: toB k (N / 256)
theorem toB_len (k N : Nat) : (toB k N).length = k := by
 induction k generalizing N with
 | zero => rfl
 | succ k ih => simp [toB, ih]
theorem toB_add (a b N : Nat) : toB (a + b) N = toB a N ++ toB b (N / 256 ^ a) := by
 induction a generalizing N with
 | zero => simp [toB]
 | succ a ih =>
  rw [show a + 1 + b = (a + b) + 1 by omega]
  simp only [toB, List.cons_append, ih, Nat.div_div_eq_div_mul, Nat.pow_succ]
  rw [Nat.mul_comm]
theorem toB_mod (a N m : Nat) (h : a ≤ m) : toB a (N % 256 ^ m) = toB a N := by
 induction a generalizing N m with
 | zero => rfl
 | succ a ih =>
  obtain ⟨m, rfl⟩ : ∃ k, m = k + 1 := ⟨m - 1, by omega⟩
  have e1 : N % 256 ^ (m + 1) % 256 = N % 256 := by rw [Nat.pow_succ]; exact Nat.mod_mul_left_mod N (256 ^ m) 256
  have e2 : N % 256 ^ (m + 1) / 256 = N / 256 % 256 ^ m := by
   rw [Nat.pow_succ, Nat.mul_comm, Nat.mod_mul_right_div_self]
  simp only [toB, e1, e2, ih _ m (by omega)]
theorem toB_lo (a N M k : Nat) (h : a ≤ k) : toB a (N + M * 256 ^ k) = toB a N := by
 rw [← toB_mod a _ k h, Nat.add_mul_mod_self_right, toB_mod a N k h]
/-- A byte of a number. -/
theorem toB_at (k N i : Nat) (h : i < k) : (toB k N).getD i 0 = ((N / 256 ^ i % 256 : Nat) : Int) := by
 induction k generalizing N i with
 | zero => omega
 | succ k ih =>
  cases i with
  | zero => simp [toB]
  | succ i =>
   simp only [toB, List.getD_cons_succ]
   rw [ih _ _ (by omega), Nat.div_div_eq_div_mul, Nat.pow_succ, Nat.mul_comm]
/-- Numbers of so many bits each, as one. -/
def pack (w : Nat) : List Nat → Nat
 | [] => 0
 | v :: vs => v + 2 ^ w * pack w vs
theorem pack_snoc (w : Nat) (vs : List Nat) (v : Nat) : pack w (vs ++ [v]) = pack w vs + v * 2 ^ (w * vs.length) := by
 induction vs with
 | nil => simp [pack]
 | cons u vs ih =>
  simp only [List.cons_append, pack, ih, List.length_cons]
  rw [Nat.mul_add, Nat.mul_succ, Nat.pow_add, Nat.add_assoc]
  congr 2
  rw [← Nat.mul_assoc, Nat.mul_comm (2 ^ w) v, Nat.mul_assoc]
  congr 1
  rw [Nat.mul_comm]
/-- Groups of seven bits. -/
def leb (n : Nat) : List Int := if n < 128 then [(n : Int)] else ((n % 128 + 128 : Nat) : Int) :: leb (n / 128)
termination_by n
decreasing_by omega
theorem leb_lo (n : Nat) (h : n < 128) : leb n = [(n : Int)] := by rw [leb, if_pos h]
theorem leb_hi (n : Nat) (h : ¬ n < 128) : leb n = ((n % 128 + 128 : Nat) : Int) :: leb (n / 128) := by rw [leb, if_neg h]
theorem leb_len (k n : Nat) (h : n < 128 ^ k) (hk : 0 < k) : 0 < (leb n).length ∧ (leb n).length ≤ k := by
 induction k generalizing n with
 | zero => omega
 | succ k ih =>
  by_cases c : n < 128
  ·rw [leb_lo n c]; simp
  ·rw [leb_hi n c, List.length_cons]
   cases k with
   | zero => omega
   | succ k =>
    have := ih (n / 128) (by rw [Nat.pow_succ] at h; omega) (by omega)
    omega
/-- A number with a sign as one without: 0, -1, 1 .. -/
def zz (v : Int) : Nat := if 0 ≤ v then (2 * v).toNat else (-2 * v - 1).toNat
end Go.Proofs.YtiieljnllgeoeaaGreat.Q
