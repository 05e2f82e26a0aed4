/- GetAt, GetData: numbers read back from their bytes. -/
import Derived.Test.YtgccaabpckfhlaaGreatDoorZc
import Derived.Handy
import Derived.Laws.BitsLemmas
import Derived.WideLaws
namespace Go.Proofs.YtgccaabpckfhlaaGreatDoor.Q
open Go.RowKit Go.Proofs.YtgccaabpckfhlaaGreatDoorW.PrintWords Go.Proofs.YtgccaabpckfhlaaGreatDoorW.PrintLast Go.Proofs.YtgccaabpckfhlaaGreatDoorW.PrintMore
set_option linter.unusedVariables false
set_option linter.unusedSimpArgs false
theorem wraps_u32 (n : Int) (h₀ : 0 ≤ n) (h₁ : n < 2 ^ 32) : IntKind.u32.wrap n = n := by
  rw [IntKind.wrap_u32]; omega
theorem wraps_u64 (n : Int) (h₀ : 0 ≤ n) (h₁ : n < 2 ^ 64) : IntKind.u64.wrap n = n := by
  rw [IntKind.wrap_u64]; omega
/-- A low number or a multiple of a greater power: their sum. -/
theorem or_low (k : IntKind) (j : Nat) (hj : j ≤ k.bits) (hk : ∀ n : Int, 0 ≤ n → n < 2 ^ j → k.wrap n = n) (i a b : Nat) (ha : a < 2 ^ i) (hb : a + 2 ^ i * b < 2 ^ j) :
    bits .or k (a : Int) ((2 ^ i * b : Nat) : Int) = ((a + 2 ^ i * b : Nat) : Int) := by
  rw [(bits_nat k j hj hk a (2 ^ i * b) (by omega) (by omega)).2, Nat.or_comm, ← Nat.two_pow_add_eq_or_of_lt ha, Nat.add_comm]
theorem or8 (b0 b1 b2 b3 b4 b5 b6 b7 : Int) (l0 : 0 ≤ b0) (u0 : b0 ≤ 255) (l1 : 0 ≤ b1) (u1 : b1 ≤ 255) (l2 : 0 ≤ b2) (u2 : b2 ≤ 255) (l3 : 0 ≤ b3) (u3 : b3 ≤ 255) (l4 : 0 ≤ b4) (u4 : b4 ≤ 255) (l5 : 0 ≤ b5) (u5 : b5 ≤ 255) (l6 : 0 ≤ b6) (u6 : b6 ≤ 255) (l7 : 0 ≤ b7) (u7 : b7 ≤ 255) :
    bits .or .u64 (bits .or .u64 (bits .or .u64 (bits .or .u64 (bits .or .u64 (bits .or .u64 (bits .or .u64 (b0) (b1 * 256)) (b2 * 65536)) (b3 * 16777216)) (b4 * 4294967296)) (b5 * 1099511627776)) (b6 * 281474976710656)) (b7 * 72057594037927936) = b0 + 256 * b1 + 65536 * b2 + 16777216 * b3 + 4294967296 * b4 + 1099511627776 * b5 + 281474976710656 * b6 + 72057594037927936 * b7 := by
  obtain ⟨n0, rfl⟩ := Int.eq_ofNat_of_zero_le l0
  obtain ⟨n1, rfl⟩ := Int.eq_ofNat_of_zero_le l1
  obtain ⟨n2, rfl⟩ := Int.eq_ofNat_of_zero_le l2
  obtain ⟨n3, rfl⟩ := Int.eq_ofNat_of_zero_le l3
  obtain ⟨n4, rfl⟩ := Int.eq_ofNat_of_zero_le l4
  obtain ⟨n5, rfl⟩ := Int.eq_ofNat_of_zero_le l5
  obtain ⟨n6, rfl⟩ := Int.eq_ofNat_of_zero_le l6
  obtain ⟨n7, rfl⟩ := Int.eq_ofNat_of_zero_le l7
  have h1 := or_low .u64 64 (by decide) wraps_u64 8 (n0) n1 (by omega) (by omega)
  have h2 := or_low .u64 64 (by decide) wraps_u64 16 (n0 + 2 ^ 8 * n1) n2 (by omega) (by omega)
  have h3 := or_low .u64 64 (by decide) wraps_u64 24 (n0 + 2 ^ 8 * n1 + 2 ^ 16 * n2) n3 (by omega) (by omega)
  have h4 := or_low .u64 64 (by decide) wraps_u64 32 (n0 + 2 ^ 8 * n1 + 2 ^ 16 * n2 + 2 ^ 24 * n3) n4 (by omega) (by omega)
  have h5 := or_low .u64 64 (by decide) wraps_u64 40 (n0 + 2 ^ 8 * n1 + 2 ^ 16 * n2 + 2 ^ 24 * n3 + 2 ^ 32 * n4) n5 (by omega) (by omega)
  have h6 := or_low .u64 64 (by decide) wraps_u64 48 (n0 + 2 ^ 8 * n1 + 2 ^ 16 * n2 + 2 ^ 24 * n3 + 2 ^ 32 * n4 + 2 ^ 40 * n5) n6 (by omega) (by omega)
  have h7 := or_low .u64 64 (by decide) wraps_u64 56 (n0 + 2 ^ 8 * n1 + 2 ^ 16 * n2 + 2 ^ 24 * n3 + 2 ^ 32 * n4 + 2 ^ 40 * n5 + 2 ^ 48 * n6) n7 (by omega) (by omega)
  rw [show ((n1 : Int) * 256) = ((2 ^ 8 * n1 : Nat) : Int) by omega, h1, show ((n2 : Int) * 65536) = ((2 ^ 16 * n2 : Nat) : Int) by omega, h2, show ((n3 : Int) * 16777216) = ((2 ^ 24 * n3 : Nat) : Int) by omega, h3, show ((n4 : Int) * 4294967296) = ((2 ^ 32 * n4 : Nat) : Int) by omega, h4, show ((n5 : Int) * 1099511627776) = ((2 ^ 40 * n5 : Nat) : Int) by omega, h5, show ((n6 : Int) * 281474976710656) = ((2 ^ 48 * n6 : Nat) : Int) by omega, h6, show ((n7 : Int) * 72057594037927936) = ((2 ^ 56 * n7 : Nat) : Int) by omega, h7]
  omega
theorem ret_int {k : IntKind} {a b : Int} (h : a = b) : Ending.returned (.int k a) = .returned (.int k b) := by rw [h]
theorem at8 {l : List Int} {o : Nat} {x : Int} (hl : (l.drop o).take 8 = le8 x) : o + 8 ≤ l.length ∧ l.getD (o + 0) 0 = (x % 256) ∧ l.getD (o + 1) 0 = (x / 256 % 256) ∧ l.getD (o + 2) 0 = (x / 65536 % 256) ∧ l.getD (o + 3) 0 = (x / 16777216 % 256) ∧ l.getD (o + 4) 0 = (x / 4294967296 % 256) ∧ l.getD (o + 5) 0 = (x / 1099511627776 % 256) ∧ l.getD (o + 6) 0 = (x / 281474976710656 % 256) ∧ l.getD (o + 7) 0 = (x / 72057594037927936 % 256) := by
  have hlen : 8 ≤ (l.drop o).length := by
    have := congrArg List.length hl
    simp [le8] at this
    simp; omega
  have hg : ∀ j, j < 8 → l.getD (o + j) 0 = (le8 x).getD j 0 := by
    intro j hj
    rw [← hl]
    simp only [List.getD_eq_getElem?_getD, List.getElem?_take, if_pos hj, List.getElem?_drop]
  simp at hlen
  refine ⟨by omega, hg 0 (by omega), hg 1 (by omega), hg 2 (by omega), hg 3 (by omega), hg 4 (by omega), hg 5 (by omega), hg 6 (by omega), hg 7 (by omega)⟩
set_option maxHeartbeats 1000000 in
set_option maxRecDepth 100000 in
theorem getU64_calls (X o c : Nat) (l : List Int) (x : Int) (w : World) (h : Row w X l) (hl : (l.drop o).take 8 = le8 x) (h0 : 0 ≤ x) (h1 : x < 18446744073709551616) :
    Calls Tryz.prog 87 #[.agg #[], .slice (some ⟨X, o, none⟩) 8 c] w fun e w' => e = .returned (.int .u64 x) ∧ Below w.heap.size w w' := by
  have hX := h.lt
  obtain ⟨hlen, g0, g1, g2, g3, g4, g5, g6, g7⟩ := at8 hl
  have c0 := h.cell (o) (by omega)
  have c1 := h.cell (o + 1) (by omega)
  have c2 := h.cell (o + 2) (by omega)
  have c3 := h.cell (o + 3) (by omega)
  have c4 := h.cell (o + 4) (by omega)
  have c5 := h.cell (o + 5) (by omega)
  have c6 := h.cell (o + 6) (by omega)
  have c7 := h.cell (o + 7) (by omega)
  rw [show l.getD o 0 = _ from g0] at c0
  rw [g1] at c1
  rw [g2] at c2
  rw [g3] at c3
  rw [g4] at c4
  rw [g5] at c5
  rw [g6] at c6
  rw [g7] at c7
  clear g0 g1 g2 g3 g4 g5 g6 g7 hl
  obtain ⟨y0, k0⟩ : ∃ y, y = (x % 256) := ⟨_, rfl⟩
  rw [← k0] at c0
  obtain ⟨y1, k1⟩ : ∃ y, y = (x / 256 % 256) := ⟨_, rfl⟩
  rw [← k1] at c1
  obtain ⟨y2, k2⟩ : ∃ y, y = (x / 65536 % 256) := ⟨_, rfl⟩
  rw [← k2] at c2
  obtain ⟨y3, k3⟩ : ∃ y, y = (x / 16777216 % 256) := ⟨_, rfl⟩
  rw [← k3] at c3
  obtain ⟨y4, k4⟩ : ∃ y, y = (x / 4294967296 % 256) := ⟨_, rfl⟩
  rw [← k4] at c4
  obtain ⟨y5, k5⟩ : ∃ y, y = (x / 1099511627776 % 256) := ⟨_, rfl⟩
  rw [← k5] at c5
  obtain ⟨y6, k6⟩ : ∃ y, y = (x / 281474976710656 % 256) := ⟨_, rfl⟩
  rw [← k6] at c6
  obtain ⟨y7, k7⟩ : ∃ y, y = (x / 72057594037927936 % 256) := ⟨_, rfl⟩
  rw [← k7] at c7
  have HE := Aside0.mk (or8 y0 y1 y2 y3 y4 y5 y6 y7 (by omega) (by omega) (by omega) (by omega) (by omega) (by omega) (by omega) (by omega) (by omega) (by omega) (by omega) (by omega) (by omega) (by omega) (by omega) (by omega))
  have HV := Aside0.mk (show y0 + 256 * y1 + 65536 * y2 + 16777216 * y3 + 4294967296 * y4 + 1099511627776 * y5 + 281474976710656 * y6 + 72057594037927936 * y7 = x by omega)
  have hy : (0 ≤ y0 ∧ y0 ≤ 255) ∧ (0 ≤ y1 ∧ y1 ≤ 255) ∧ (0 ≤ y2 ∧ y2 ≤ 255) ∧ (0 ≤ y3 ∧ y3 ≤ 255) ∧ (0 ≤ y4 ∧ y4 ≤ 255) ∧ (0 ≤ y5 ∧ y5 ≤ 255) ∧ (0 ≤ y6 ∧ y6 ≤ 255) ∧ (0 ≤ y7 ∧ y7 ≤ 255) := by omega
  obtain ⟨⟨a0, b0⟩, ⟨a1, b1⟩, ⟨a2, b2⟩, ⟨a3, b3⟩, ⟨a4, b4⟩, ⟨a5, b5⟩, ⟨a6, b6⟩, ⟨a7, b7⟩⟩ := hy
  clear k0 k1 k2 k3 k4 k5 k6 k7 h0 h1
  clear h hlen
  go_enter Tryz.func87, Tryz.ntmps87
  go_wp2
  go_quiet (fail)
  go_wp2
  go_ret
  exact ⟨ret_int (HE.out.trans HV.out), pw_below_drewN (below_alloc (Below.refl _ _) _) _⟩
end Go.Proofs.YtgccaabpckfhlaaGreatDoor.Q
