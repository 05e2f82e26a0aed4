/- packBits. -/
import Derived.Test.YtgccaabpckfhlaaGreatDoorZf
import Derived.StillTailTactics
namespace Go.Proofs.YtgccaabpckfhlaaGreatDoor.Q
open Go.RowKit Go.Proofs.YtgccaabpckfhlaaGreatDoorW.PrintWords Go.Proofs.YtgccaabpckfhlaaGreatDoorW.PrintLast Go.Proofs.YtgccaabpckfhlaaGreatDoorW.PrintMore
set_option linter.unusedVariables false
set_option linter.unusedSimpArgs false
def byte8 (us : List Int) (i : Nat) : Int := us.getD i 0 + 2 * us.getD (i + 1) 0 + 4 * us.getD (i + 2) 0 + 8 * us.getD (i + 3) 0 + 16 * us.getD (i + 4) 0 + 32 * us.getD (i + 5) 0 + 64 * us.getD (i + 6) 0 + 128 * us.getD (i + 7) 0
def packs (us : List Int) (k : Nat) : Nat → List Int → List Int
  | 0, bs => bs
  | j + 1, bs => (packs us k j bs).set (k + j) (byte8 us (8 * j))
theorem packs_len (us : List Int) (k : Nat) : ∀ j bs, (packs us k j bs).length = bs.length
  | 0, bs => rfl
  | j + 1, bs => by rw [packs, List.length_set, packs_len us k j bs]
set_option maxRecDepth 100000 in
/-- The rest of a slice of bytes. -/
theorem rest_b (A : Option Addr) (O k m c i : Nat) (z : Int) (hz : z = (i : Int)) (hA : 0 < m → A = some ⟨O, k, none⟩) (hi : i ≤ m) (hm : m ≤ c) : ∃ A', (∀ W : World, (Instr.sliceAt 23 (.slice A m c) (some (.int .i64 z)) none none).run Tryz.prog W = .ok (.slice A' (m - i) (c - i)) W) ∧ (0 < m - i → A' = some ⟨O, k + i, none⟩) := by
  subst hz
  refine ⟨if c - i = 0 then A else A.map (·.add i), fun W => ?_, fun h => ?_⟩
  · rw [run_sliceAt_slice W 23 _ _ _ _ Tryz.underlying23, run_slice_l W 23 A m c Tryz.underlying23 .i64 (i : Int) (by omega) (by omega)]
    have hsz : (sizeOf (Tryz.prog.elem 23)).run Tryz.prog W = .ok 1 W := by kernel_rfl
    rw [hsz]
    simp only [Result.andThen, sliced, Int.toNat_natCast]
    by_cases c0 : c - i = 0
    · rw [if_pos c0, if_pos (by omega)]
    · rw [if_neg c0, if_neg (by omega)]
      simp
  · rw [if_neg (by omega), hA (by omega)]
    simp [Addr.add]
theorem or8s (b0 b1 b2 b3 b4 b5 b6 b7 : Int) (l0 : 0 ≤ b0) (u0 : b0 ≤ 1) (l1 : 0 ≤ b1) (u1 : b1 ≤ 1) (l2 : 0 ≤ b2) (u2 : b2 ≤ 1) (l3 : 0 ≤ b3) (u3 : b3 ≤ 1) (l4 : 0 ≤ b4) (u4 : b4 ≤ 1) (l5 : 0 ≤ b5) (u5 : b5 ≤ 1) (l6 : 0 ≤ b6) (u6 : b6 ≤ 1) (l7 : 0 ≤ b7) (u7 : b7 ≤ 1) :
    bits .or .u32 (bits .or .u32 (bits .or .u32 (bits .or .u32 (bits .or .u32 (bits .or .u32 (bits .or .u32 b0 (b1 * 2)) (b2 * 4)) (b3 * 8)) (b4 * 16)) (b5 * 32)) (b6 * 64)) (b7 * 128) = b0 + 2 * b1 + 4 * b2 + 8 * b3 + 16 * b4 + 32 * b5 + 64 * b6 + 128 * b7 := by
  obtain ⟨n0, rfl⟩ := Int.eq_ofNat_of_zero_le l0
  obtain ⟨n1, rfl⟩ := Int.eq_ofNat_of_zero_le l1
  obtain ⟨n2, rfl⟩ := Int.eq_ofNat_of_zero_le l2
  obtain ⟨n3, rfl⟩ := Int.eq_ofNat_of_zero_le l3
  obtain ⟨n4, rfl⟩ := Int.eq_ofNat_of_zero_le l4
  obtain ⟨n5, rfl⟩ := Int.eq_ofNat_of_zero_le l5
  obtain ⟨n6, rfl⟩ := Int.eq_ofNat_of_zero_le l6
  obtain ⟨n7, rfl⟩ := Int.eq_ofNat_of_zero_le l7
  have h1 := or_low .u32 32 (by decide) wraps_u32 1 n0 n1 (by omega) (by omega)
  have h2 := or_low .u32 32 (by decide) wraps_u32 2 (n0 + 2 ^ 1 * n1) n2 (by omega) (by omega)
  have h3 := or_low .u32 32 (by decide) wraps_u32 3 (n0 + 2 ^ 1 * n1 + 2 ^ 2 * n2) n3 (by omega) (by omega)
  have h4 := or_low .u32 32 (by decide) wraps_u32 4 (n0 + 2 ^ 1 * n1 + 2 ^ 2 * n2 + 2 ^ 3 * n3) n4 (by omega) (by omega)
  have h5 := or_low .u32 32 (by decide) wraps_u32 5 (n0 + 2 ^ 1 * n1 + 2 ^ 2 * n2 + 2 ^ 3 * n3 + 2 ^ 4 * n4) n5 (by omega) (by omega)
  have h6 := or_low .u32 32 (by decide) wraps_u32 6 (n0 + 2 ^ 1 * n1 + 2 ^ 2 * n2 + 2 ^ 3 * n3 + 2 ^ 4 * n4 + 2 ^ 5 * n5) n6 (by omega) (by omega)
  have h7 := or_low .u32 32 (by decide) wraps_u32 7 (n0 + 2 ^ 1 * n1 + 2 ^ 2 * n2 + 2 ^ 3 * n3 + 2 ^ 4 * n4 + 2 ^ 5 * n5 + 2 ^ 6 * n6) n7 (by omega) (by omega)
  rw [show ((n1 : Int) * 2) = ((2 ^ 1 * n1 : Nat) : Int) by omega, h1, show ((n2 : Int) * 4) = ((2 ^ 2 * n2 : Nat) : Int) by omega, h2, show ((n3 : Int) * 8) = ((2 ^ 3 * n3 : Nat) : Int) by omega, h3, show ((n4 : Int) * 16) = ((2 ^ 4 * n4 : Nat) : Int) by omega, h4, show ((n5 : Int) * 32) = ((2 ^ 5 * n5 : Nat) : Int) by omega, h5, show ((n6 : Int) * 64) = ((2 ^ 6 * n6 : Nat) : Int) by omega, h6, show ((n7 : Int) * 128) = ((2 ^ 7 * n7 : Nat) : Int) by omega, h7]
  omega
set_option maxHeartbeats 1000000 in
set_option maxRecDepth 100000 in
theorem packBits_calls (us : List Int) (A : Option Addr) (B O k m c co : Nat) (bs : List Int) (w : World) (hu : us.length = 32) (h01 : ∀ x ∈ us, x = 0 ∨ x = 1) (h : Ob w B O co bs) (hA : 0 < m → A = some ⟨O, k, none⟩) (hk : k + m = bs.length) (hm : 4 ≤ m) (hmc : m ≤ c) (hO : O < w.heap.size) :
    Calls Tryz.prog 67 #[.agg (us.map (Value.int .u32)).toArray, .slice A m c] w fun e w' => e = .returned (.tuple #[]) ∧ Ob w' B O co (packs us k 4 bs) ∧ Tn (fun k => k = O) w w' := by
  have H01 := Aside0.mk h01
  have HU := Aside0.mk hu
  have HKM := Aside0.mk hk
  have HM := Aside0.mk hm
  have hb0 := (show RowK .u32 162 (w.alloc (.cells (us.map (Value.int .u32)).toArray 162)) w.heap.size us from blk_new w _)
  have ho0 : Ob (w.alloc (.cells (us.map (Value.int .u32)).toArray 162)) B O co bs := fun hp => Kd.R_alloc (h hp) _
  have ht0 := (Tn.refl (fun k => k = O) w).alloc (.cells (us.map (Value.int .u32)).toArray 162)
  have HB0 := Aside0.mk hb0
  have HO0 := Aside0.mk ho0
  have HT0 := Aside0.mk ht0
  have HON := Aside0.mk (show w.heap.size ≠ O by omega)
  clear h01 hu hb0 ho0 ht0 h hk hO
  go_enter Tryz.func67, Tryz.ntmps67
  go_wp2
  generalize w.alloc (.cells (us.map (Value.int .u32)).toArray 162) = w1 at HB0 HO0 HT0 ⊢
  obtain ⟨G, hG⟩ : ∃ G, G = w.heap.size := ⟨_, rfl⟩
  rw [← hG] at HB0 HON ⊢
  have HG := Aside0.mk hG
  have HA := Aside0.mk hA
  have HMC := Aside0.mk hmc
  clear hG hA hm hmc
  go_loopg [1, 4] 5 (fun kq v1 v4 w' => ∃ (j : Nat) (A' : Option Addr), v1 = .slice A' (m - j) (c - j) ∧ v4 = .int .i64 ((8 * j : Nat) : Int) ∧ Aside0 (j + kq = 5) ∧ Aside0 (j ≤ 4) ∧ Aside0 (0 < m - j → A' = some ⟨O, k + j, none⟩) ∧ Aside0 (RowK .u32 162 w' G us) ∧ Aside0 (Ob w' B O co (packs us k j bs)) ∧ Aside0 (Tn (fun k => k = O) w w'))
  case atStart => exact ⟨0, A, rfl, rfl, ⟨by omega⟩, ⟨by omega⟩, ⟨HA.out⟩, HB0, HO0, HT0⟩
  case round =>
    clear HB0 HO0 HT0
    obtain ⟨j, A', rfl, rfl, HJ, HJ4, HA', HBOX, HOB, HT⟩ := hrel
    cases gk with
    | zero => exact absurd HJ.out (by have := HJ4.out; omega)
    | succ k1 =>
      by_cases c2 : j < 4
      · have c2b : decide (((8 * j : Nat) : Int) < 32) = true := decide_eq_true (by omega)
        have hmj : 0 < m - j := by have := HM.out; omega
        obtain rfl := HA'.out hmj
        have hmj4 : j < m := by omega
        obtain ⟨mj, hmj2⟩ : ∃ q, q = m - j := ⟨_, rfl⟩
        obtain ⟨cj, hcj2⟩ : ∃ q, q = c - j := ⟨_, rfl⟩
        obtain ⟨A2, hsl, hA2⟩ := rest_b (some ⟨O, k + j, none⟩) O (k + j) mj cj 1 1 rfl (fun _ => rfl) (by omega) (by have := HMC.out; omega)
        rw [← hmj2, ← hcj2]
        have hl := packs_len us k j bs
        obtain ⟨c3, z3⟩ := HOB.out.cell (k + j) (by rw [hl]; have := HKM.out; omega)
        have g1 : (0 : Int) < (mj : Int) := by omega
        have HMJ := Aside0.mk (And.intro hmj2 hcj2)
        have hmj3 : 1 ≤ mj := by omega
        have hmj5 : 0 < mj := by omega
        obtain ⟨i, hi⟩ : ∃ i, i = 8 * j := ⟨_, rfl⟩
        obtain ⟨i2, hi2⟩ : ∃ i2, i2 = 8 * (j + 1) := ⟨_, rfl⟩
        rw [← hi]
        rw [← hi] at c2b
        have x0 := HBOX.out.cell i (by rw [HU.out]; omega)
        have x1 := HBOX.out.cell (i + 1) (by rw [HU.out]; omega)
        have x2 := HBOX.out.cell (i + 2) (by rw [HU.out]; omega)
        have x3 := HBOX.out.cell (i + 3) (by rw [HU.out]; omega)
        have x4 := HBOX.out.cell (i + 4) (by rw [HU.out]; omega)
        have x5 := HBOX.out.cell (i + 5) (by rw [HU.out]; omega)
        have x6 := HBOX.out.cell (i + 6) (by rw [HU.out]; omega)
        have x7 := HBOX.out.cell (i + 7) (by rw [HU.out]; omega)
        have m0 : ∀ q, q < 32 → us.getD q 0 = 0 ∨ us.getD q 0 = 1 := fun q hq => by
          rw [List.getD_eq_getElem?_getD, List.getElem?_eq_getElem (by rw [HU.out]; exact hq)]; exact H01.out _ (List.getElem_mem _)
        have o0 := m0 i (by omega)
        have o1 := m0 (i + 1) (by omega)
        have o2 := m0 (i + 2) (by omega)
        have o3 := m0 (i + 3) (by omega)
        have o4 := m0 (i + 4) (by omega)
        have o5 := m0 (i + 5) (by omega)
        have o6 := m0 (i + 6) (by omega)
        have o7 := m0 (i + 7) (by omega)
        have hby : byte8 us i = us.getD i 0 + 2 * us.getD (i + 1) 0 + 4 * us.getD (i + 2) 0 + 8 * us.getD (i + 3) 0 + 16 * us.getD (i + 4) 0 + 32 * us.getD (i + 5) 0 + 64 * us.getD (i + 6) 0 + 128 * us.getD (i + 7) 0 := rfl
        generalize us.getD i 0 = y0 at x0 o0 hby
        generalize us.getD (i + 1) 0 = y1 at x1 o1 hby
        generalize us.getD (i + 2) 0 = y2 at x2 o2 hby
        generalize us.getD (i + 3) 0 = y3 at x3 o3 hby
        generalize us.getD (i + 4) 0 = y4 at x4 o4 hby
        generalize us.getD (i + 5) 0 = y5 at x5 o5 hby
        generalize us.getD (i + 6) 0 = y6 at x6 o6 hby
        generalize us.getD (i + 7) 0 = y7 at x7 o7 hby
        have HE := Aside0.mk (or8s y0 y1 y2 y3 y4 y5 y6 y7 (by omega) (by omega) (by omega) (by omega) (by omega) (by omega) (by omega) (by omega) (by omega) (by omega) (by omega) (by omega) (by omega) (by omega) (by omega) (by omega))
        have HW := Aside0.mk (show IntKind.u8.wrap (y0 + 2 * y1 + 4 * y2 + 8 * y3 + 16 * y4 + 32 * y5 + 64 * y6 + 128 * y7) = byte8 us i by rw [IntKind.wrap_u8, hby]; omega)
        have HV := Aside0.mk ((IntKind.wrap_u8 _).symm.trans ((congrArg IntKind.u8.wrap HE.out).trans HW.out))
        clear HE HW
        have s1 : IntKind.u32.wrap (y1 * 2) = y1 * 2 := by rw [IntKind.wrap_u32]; omega
        have s2 : IntKind.u32.wrap (y2 * 4) = y2 * 4 := by rw [IntKind.wrap_u32]; omega
        have s3 : IntKind.u32.wrap (y3 * 8) = y3 * 8 := by rw [IntKind.wrap_u32]; omega
        have s4 : IntKind.u32.wrap (y4 * 16) = y4 * 16 := by rw [IntKind.wrap_u32]; omega
        have s5 : IntKind.u32.wrap (y5 * 32) = y5 * 32 := by rw [IntKind.wrap_u32]; omega
        have s6 : IntKind.u32.wrap (y6 * 64) = y6 * 64 := by rw [IntKind.wrap_u32]; omega
        have s7 : IntKind.u32.wrap (y7 * 128) = y7 * 128 := by rw [IntKind.wrap_u32]; omega
        have q0 : 0 ≤ ((i : Nat) : Int) := by omega
        have q1 : ((i : Nat) : Int) < 32 := by omega
        have e1 : IntKind.i64.wrap ((i : Int) + 1) = (i : Int) + 1 := by rw [IntKind.wrap_i64]; omega
        have p1 : (i : Int) + 1 < 32 := by omega
        have a1 : 0 ≤ (i : Int) + 1 := by omega
        have t1 : ((i : Int) + 1).toNat = i + 1 := by omega
        have e2 : IntKind.i64.wrap ((i : Int) + 2) = (i : Int) + 2 := by rw [IntKind.wrap_i64]; omega
        have p2 : (i : Int) + 2 < 32 := by omega
        have a2 : 0 ≤ (i : Int) + 2 := by omega
        have t2 : ((i : Int) + 2).toNat = i + 2 := by omega
        have e3 : IntKind.i64.wrap ((i : Int) + 3) = (i : Int) + 3 := by rw [IntKind.wrap_i64]; omega
        have p3 : (i : Int) + 3 < 32 := by omega
        have a3 : 0 ≤ (i : Int) + 3 := by omega
        have t3 : ((i : Int) + 3).toNat = i + 3 := by omega
        have e4 : IntKind.i64.wrap ((i : Int) + 4) = (i : Int) + 4 := by rw [IntKind.wrap_i64]; omega
        have p4 : (i : Int) + 4 < 32 := by omega
        have a4 : 0 ≤ (i : Int) + 4 := by omega
        have t4 : ((i : Int) + 4).toNat = i + 4 := by omega
        have e5 : IntKind.i64.wrap ((i : Int) + 5) = (i : Int) + 5 := by rw [IntKind.wrap_i64]; omega
        have p5 : (i : Int) + 5 < 32 := by omega
        have a5 : 0 ≤ (i : Int) + 5 := by omega
        have t5 : ((i : Int) + 5).toNat = i + 5 := by omega
        have e6 : IntKind.i64.wrap ((i : Int) + 6) = (i : Int) + 6 := by rw [IntKind.wrap_i64]; omega
        have p6 : (i : Int) + 6 < 32 := by omega
        have a6 : 0 ≤ (i : Int) + 6 := by omega
        have t6 : ((i : Int) + 6).toNat = i + 6 := by omega
        have e7 : IntKind.i64.wrap ((i : Int) + 7) = (i : Int) + 7 := by rw [IntKind.wrap_i64]; omega
        have p7 : (i : Int) + 7 < 32 := by omega
        have a7 : 0 ≤ (i : Int) + 7 := by omega
        have t7 : ((i : Int) + 7).toNat = i + 7 := by omega
        have e8 : IntKind.i64.wrap (((i : Nat) : Int) + 8) = (i2 : Int) := by rw [IntKind.wrap_i64]; omega
        have HA2 := Aside0.mk hA2
        have C2 := Aside0.mk c2
        have HI := Aside0.mk hi
        have HI2 := Aside0.mk hi2
        clear hi hi2 hby c2 hmj hmj2 hcj2 hmj4 hA2 hl m0 HA' HA o0 o1 o2 o3 o4 o5 o6 o7
        go_wp2
        go_still_tail 48, (by kernel_rfl)
        change wpList _ _ _ _ _ wr.drew
        clear x0 x1 x2 x3 x4 x5 x6 x7 s1 e1 p1 a1 t1 s2 e2 p2 a2 t2 s3 e3 p3 a3 t3 s4 e4 p4 a4 t4 s5 e5 p5 a5 t5 s6 e6 p6 a6 t6 s7 e7 p7 a7 t7 q0 q1
        generalize bits .or .u32 y0 (y1 * 2) = z11 at HV ⊢
        generalize bits .or .u32 z11 (y2 * 4) = z12 at HV ⊢
        generalize bits .or .u32 z12 (y3 * 8) = z13 at HV ⊢
        generalize bits .or .u32 z13 (y4 * 16) = z14 at HV ⊢
        generalize bits .or .u32 z14 (y5 * 32) = z15 at HV ⊢
        generalize bits .or .u32 z15 (y6 * 64) = z16 at HV ⊢
        generalize bits .or .u32 z16 (y7 * 128) = z17 at HV ⊢
        go_wp2
        rw [HV.out]
        go_roundg k1
        case measure => have := HJ.out; omega
        case rel =>
          refine ⟨j + 1, A2, ?_, ?_, ⟨by have := HJ.out; omega⟩, ⟨by have := C2.out; omega⟩, ⟨fun hp => ?_⟩, ?_, ?_, ?_⟩
          · have := HMJ.out
            rw [this.1, this.2, Nat.sub_sub, Nat.sub_sub]
          · rw [HI2.out]
          · have := HMJ.out
            exact HA2.out (by omega)
          · exact ⟨blk_drew (blk_far HBOX.out (p := ⟨O, k + j, none⟩) HON.out _)⟩
          · refine ⟨fun hp => Kd.R_drew ?_⟩
            have := HOB.out.put (k + j) (byte8 us i)
            rw [HI.out] at this ⊢
            exact this hp
          · exact ⟨(HT.out.setCell (p := ⟨O, k + j, none⟩) (.inl rfl) _).drew⟩
      · have c2b : decide (((8 * j : Nat) : Int) < 32) = false := decide_eq_false (by omega)
        go_wp2
        go_end0
        have hj : j = 4 := by have := HJ4.out; omega
        subst hj
        exact ⟨rfl, HOB.out, HT.out⟩
end Go.Proofs.YtgccaabpckfhlaaGreatDoor.Q
