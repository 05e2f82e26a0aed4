/- The writer of bits: numbers in groups of seven bits, bytes left out, values. -/
import Derived.Test.YtiieljnllgeoeaaGreatFg
namespace Go.Proofs.YtiieljnllgeoeaaGreat.Q
open Go.RowKit Go.Proofs.YtiieljnllgeoeaaGreatW.PrintWords Go.Proofs.YtiieljnllgeoeaaGreatW.PrintLast Go.Proofs.YtiieljnllgeoeaaGreatW.PrintMore
set_option linter.unusedVariables false
set_option linter.unusedSimpArgs false
/-- The bytes of a stream, with those that wait. -/
def full (done : List Int) (buf bto : Nat) : List Int := done ++ toB ((bto + 7) / 8) buf
theorem full_len (done : List Int) (buf bto : Nat) : (full done buf bto).length = done.length + (bto + 7) / 8 := by simp [full, toB_len]
set_option maxHeartbeats 4000000 in
set_option maxRecDepth 100000 in
theorem vlq_calls {w : World} {lo W : Nat} {S : Sk} {done : List Int} {buf bto : Nat} {rs : List Int} (n : Nat) (h : Bs w lo W S done done.length buf bto rs) (hb : buf < 18446744073709551616) (ht : bto < 64) (hl : done.length + (bto + 7) / 8 + (leb n).length ≤ S.n) (hn : n < 18446744073709551616) :
  Calls Tryz.prog 92 #[.pointer (some ⟨W, 0, none⟩), .int .u64 (n : Int)] w fun e w' => e = .returned (.bool true) ∧ (∃ rs', Bs w' lo W S (full done buf bto ++ leb n) (full done buf bto ++ leb n).length 0 0 rs') ∧ Fr lo w w' := by
 have HF := Aside0.mk (flush_calls h hb ht (by omega))
 have hlen := full_len done buf bto
 rw [show done ++ toB ((bto + 7) / 8) buf = full done buf bto from rfl, ← hlen] at HF
 have hfl : (full done buf bto).length + (leb n).length ≤ S.n ∧ S.n ≤ 16777216 := ⟨by omega, h.2.2.2.2.1⟩
 generalize full done buf bto = D at HF hfl ⊢
 have hlb := leb_len 10 n (by omega) (by omega)
 have HLB := Aside0.mk hlb
 have HFL := Aside0.mk hfl
 have HN := Aside0.mk hn
 clear h hb ht hl hlen hlb hfl hn
 go_enter Tryz.func92, Tryz.ntmps92
 go_upto_region 3 with (first | (go_at_call 82; refine HF.out.mono ?_; rintro e w1 ⟨rfl, ⟨rs1, b1⟩, f1⟩; have HU := Aside0.mk (putuv_calls W _ _ _ _ rs1 n w1 b1.bw HN.out); have B1 := Aside0.mk b1; have F1 := Aside0.mk f1; clear b1 f1) | (go_at_call 106; refine HU.out.mono ?_; rintro e w2 ⟨rfl, ⟨rs2, u1, u2⟩, u3, u4⟩; have b2 := B1.out.kept u3 u1; have f2 := F1.out.trans (Fr.of_bw B1.out.bw B1.out.low u4 u3); have r0 := u1.c0; have r2 := u1.c2; have hsl := slice_buf W (leb n).length HLB.out.2; have HW := Aside0.mk (bs_wat (b2.drewN 1) ⟨W, 12, none⟩ 10 (leb n) D.length HLB.out.1 HFL.out.1 (src_buf (w := w2.drewN 1) (⟨u1.1, u1.2⟩ : Bw (w2.drewN 1) _ _ _ _ _ _) u2 HLB.out.2)); have F2 := Aside0.mk f2; clear b2 f2 u1 u2 u3 u4))
 go_region_held3 (fun w' => w'.cell? ⟨W, 0, none⟩ = some (.iface 182 (.pointer (some ⟨S.B, 0, none⟩))) ∧ w'.cell? ⟨W, 2, none⟩ = some (.int .i64 (D.length : Int))) (go_keep) (first | (go_at_call 188; go_loud (refine HW.out.mono ?_; rintro e w3 ⟨⟨m, rfl⟩, p1, p2, p3⟩; have b3 := p1 rfl; have q0 := b3.bw.c0; have q2 := b3.bw.c2; have z2 := b3.bw.f 2; have B3 := Aside0.mk b3; have F3 := Aside0.mk (F2.out.trans (Fr.drewN 1 p3)); clear b3 p1 p2 p3)))
 go_wp2
 go_ret
 have hw : wrap64 ((D.length : Int) + ((leb n).length : Int)) = (((D ++ leb n).length : Nat) : Int) := by have := HLB.out.2; have := HFL.out; unfold wrap64; simp; omega
 rw [hw]
 exact ⟨rfl, ⟨_, B3.out.s2 _⟩, F3.out.trans (Fr.set B3.out.bw B3.out.low 2 _)⟩
theorem Bs.zero {w : World} {lo W : Nat} {S : Sk} {done : List Int} {byo buf bto : Nat} {rs : List Int} (h : Bs w lo W S done byo buf bto rs) (hn : done.length + 1 ≤ S.n) : Bs w lo W S (done ++ [0]) byo buf bto rs := by
 obtain ⟨h1, h2, h3, h4, h5⟩ := h
 refine ⟨h1, h2, ?_, by simpa using hn, h5⟩
 have e : done ++ List.replicate (S.n - done.length) 0 = (done ++ [0]) ++ List.replicate (S.n - (done ++ [0]).length) (0 : Int) := by
  rw [List.append_assoc, List.length_append, show S.n - done.length = (S.n - (done.length + [(0 : Int)].length)) + 1 by simp; omega, List.replicate_succ]
  rfl
 rw [← e]
 exact h3
set_option maxRecDepth 100000 in
theorem bs_res (p v : Value) (w : World) : Calls Tryz.prog 187 #[p, v] w fun e w' => e = .returned (.tuple #[]) ∧ w' = w := by
 go_enter Tryz.func187, Tryz.ntmps187
 go_wp2
 go_end0
 exact ⟨rfl, rfl⟩
set_option maxHeartbeats 4000000 in
set_option maxRecDepth 100000 in
theorem skip_calls {w : World} {lo W : Nat} {S : Sk} {done : List Int} {buf bto : Nat} {rs : List Int} (h : Bs w lo W S done done.length buf bto rs) (hb : buf < 18446744073709551616) (ht : bto < 64) (hl : done.length + (bto + 7) / 8 + 1 ≤ S.n) :
  Calls Tryz.prog 94 #[.pointer (some ⟨W, 0, none⟩), .int .i64 1] w fun e w' => e = .returned (.tuple #[.int .i64 ((full done buf bto).length : Int), .nilIface]) ∧ (∃ rs', Bs w' lo W S (full done buf bto ++ [0]) (full done buf bto ++ [0]).length 0 0 rs') ∧ Fr lo w w' := by
 have HF := Aside0.mk (flush_calls h hb ht (by omega))
 have hlen := full_len done buf bto
 rw [show done ++ toB ((bto + 7) / 8) buf = full done buf bto from rfl, ← hlen] at HF
 have hfl : (full done buf bto).length + 1 ≤ S.n ∧ S.n ≤ 16777216 := ⟨by omega, h.2.2.2.2.1⟩
 generalize full done buf bto = D at HF hfl ⊢
 have HFL := Aside0.mk hfl
 have HWR := Aside0.mk (show wrap64 ((D.length : Int) + 1) = ((D.length + 1 : Nat) : Int) by have := hfl.1; have := hfl.2; unfold wrap64; omega)
 clear h hb ht hl hlen hfl
 go_enter Tryz.func94, Tryz.ntmps94
 go_wp2_with (first | (go_at_call 82; refine HF.out.mono ?_; rintro e w1 ⟨rfl, ⟨rs1, b1⟩, f1⟩; have r2 := b1.bw.c2; have z2 := b1.bw.f 2; have hw := HWR.out; have B1 := Aside0.mk b1; have F1 := Aside0.mk f1; clear b1 f1))
 have b2 := B1.out.s2 (D.length + 1)
 have f2 := F1.out.trans (Fr.set B1.out.bw B1.out.low 2 (.int .i64 ((D.length + 1 : Nat) : Int)))
 clear r2 z2 hw
 rw [show ((D.length + 1 : Nat) : Int) = (D.length : Int) + 1 by omega] at b2 f2
 generalize w1.setCell ⟨W, 2, none⟩ (.int .i64 ((D.length : Int) + 1)) = w2 at b2 f2 ⊢
 have r0 := b2.bw.c0
 have r2 := b2.bw.c2
 have B2 := Aside0.mk b2
 have F2 := Aside0.mk f2
 clear b2 f2
 go_still_tail 10, (by kernel_rfl)
 change wpList _ _ _ _ _ w2.drew
 go_wp2_with (first | (go_at_call 187; refine (bs_res _ _ _).mono ?_; rintro e w3 ⟨rfl, hw3⟩; subst w3))
 go_ret2
 exact ⟨rfl, ⟨_, (by simpa using (B2.out.zero (by have := HFL.out.1; omega)).drew)⟩, Fr.trans F2.out (Fr.drew (Fr.refl _ _))⟩
theorem or_add (a c k : Nat) (ha : a < 2 ^ k) (hk : k < 64) : a ||| (c * 2 ^ k % 18446744073709551616) = (a + c * 2 ^ k) % 18446744073709551616 := by
 have e : 18446744073709551616 = 2 ^ (64 - k) * 2 ^ k := by rw [← Nat.pow_add, show 64 - k + k = 64 by omega]
 have e1 : c * 2 ^ k % 18446744073709551616 = c % 2 ^ (64 - k) * 2 ^ k := by rw [e, Nat.mul_mod_mul_right]
 have e2 : a ||| c % 2 ^ (64 - k) * 2 ^ k = a + c % 2 ^ (64 - k) * 2 ^ k := by
  have := Nat.two_pow_add_eq_or_of_lt ha (c % 2 ^ (64 - k))
  rw [Nat.mul_comm, Nat.or_comm, ← this, Nat.add_comm]
 rw [e1, e2]
 have h3 : c % 2 ^ (64 - k) + 1 ≤ 2 ^ (64 - k) := Nat.mod_lt _ (Nat.two_pow_pos _)
 have h4 : (c % 2 ^ (64 - k) + 1) * 2 ^ k ≤ 2 ^ (64 - k) * 2 ^ k := Nat.mul_le_mul_right _ h3
 rw [← e, Nat.add_mul, Nat.one_mul] at h4
 have h5 : (a + c % 2 ^ (64 - k) * 2 ^ k) % 18446744073709551616 = a + c % 2 ^ (64 - k) * 2 ^ k := Nat.mod_eq_of_lt (by omega)
 rw [← h5, ← e1, Nat.add_mod_mod]
theorem or_is (a c k : Nat) (ha : a < 2 ^ k) (hk : k < 64) : bits .or .u64 (a : Int) (IntKind.u64.wrap ((c : Int) * 2 ^ k)) = (((a + c * 2 ^ k) % 18446744073709551616 : Nat) : Int) := by
 have hw : IntKind.u64.wrap ((c : Int) * 2 ^ k) = ((c * 2 ^ k % 18446744073709551616 : Nat) : Int) := by
  have : (c : Int) * 2 ^ k = ((c * 2 ^ k : Nat) : Int) := by simp
  rw [this]
  generalize c * 2 ^ k = x
  simp [IntKind.wrap, IntKind.bits, IntKind.signed]
 have h2 : (2 : Nat) ^ k < 2 ^ 64 := Nat.pow_lt_pow_right (by omega) hk
 rw [hw, u64_or_nat a _ (by omega) (Nat.mod_lt _ (by omega)), or_add a c k ha hk]
theorem shr_is (a c k : Nat) (ha : a < 2 ^ k) (hk : k ≤ 64) : (a + c * 2 ^ k) / 18446744073709551616 = c / 2 ^ (64 - k) := by
 have e : 18446744073709551616 = 2 ^ k * 2 ^ (64 - k) := by rw [← Nat.pow_add, show k + (64 - k) = 64 by omega]
 rw [e, ← Nat.div_div_eq_div_mul, Nat.add_mul_div_right _ _ (Nat.two_pow_pos k), Nat.div_eq_of_lt ha, Nat.zero_add]
set_option maxHeartbeats 4000000 in
set_option maxRecDepth 100000 in
theorem val_lo {w : World} {lo W : Nat} {S : Sk} {done : List Int} {buf bto : Nat} {rs : List Int} (v n : Nat) (h : Bs w lo W S done done.length buf bto rs) (hb : buf < 2 ^ bto) (ht : bto < 64) (hc : bto + n < 64) :
  Calls Tryz.prog 95 #[.pointer (some ⟨W, 0, none⟩), .int .u64 (v : Int), .int .u64 (n : Int)] w fun e w' => e = .returned .nilIface ∧ Bs w' lo W S done done.length ((buf + v * 2 ^ bto) % 18446744073709551616) (bto + n) rs ∧ Fr lo w w' := by
 have r1 := h.bw.c1
 have r3 := h.bw.c3
 have z1 := h.bw.f 1
 have z3 := h.bw.f 3
 have ho := or_is buf v bto hb ht
 generalize (buf + v * 2 ^ bto) % 18446744073709551616 = m at ho ⊢
 have d1 := (h.s1 m).drew
 have d2 := d1.s3 (bto + n)
 have e1 := (Fr.set h.bw h.low 1 (.int .u64 (m : Int))).trans (Fr.drew (Fr.set d1.bw d1.low 3 (.int .u64 ((bto + n : Nat) : Int))))
 rw [show ((bto + n : Nat) : Int) = (bto : Int) + (n : Int) by omega] at d2 e1
 have D2 := Aside0.mk d2
 have E1 := Aside0.mk e1
 have hd : decide ((bto : Int) + (n : Int) ≥ 64) = false := decide_eq_false (by omega)
 clear h d1 d2 e1 hb
 go_enter Tryz.func95, Tryz.ntmps95
 go_wp2
 go_still_tail 13, (by kernel_rfl)
 change wpList _ _ _ _ _ w.drew
 go_wp2
 go_ret
 exact ⟨rfl, D2.out, E1.out⟩
set_option maxHeartbeats 4000000 in
set_option maxRecDepth 100000 in
theorem val_hi {w : World} {lo W : Nat} {S : Sk} {done : List Int} {buf bto : Nat} {rs : List Int} (v n : Nat) (h : Bs w lo W S done done.length buf bto rs) (hb : buf < 2 ^ bto) (ht : bto < 64) (hl : done.length + 8 ≤ S.n) (hn : n ≤ 64) (hc : 64 ≤ bto + n) (hv : v < 18446744073709551616) :
  Calls Tryz.prog 95 #[.pointer (some ⟨W, 0, none⟩), .int .u64 (v : Int), .int .u64 (n : Int)] w fun e w' => e = .returned .nilIface ∧ (∃ rs', Bs w' lo W S (done ++ toB 8 ((buf + v * 2 ^ bto) % 18446744073709551616)) (done.length + 8) ((buf + v * 2 ^ bto) / 18446744073709551616) (bto + n - 64) rs') ∧ Fr lo w w' := by
 have r1 := h.bw.c1
 have r3 := h.bw.c3
 have z1 := h.bw.f 1
 have z3 := h.bw.f 3
 have ho := or_is buf v bto hb ht
 have hsh := shr_is buf v bto hb (by omega)
 have hm : (buf + v * 2 ^ bto) % 18446744073709551616 < 18446744073709551616 := Nat.mod_lt _ (by omega)
 generalize (buf + v * 2 ^ bto) % 18446744073709551616 = m at ho hm ⊢
 rw [hsh]
 clear hsh
 have d1 := (h.s1 m).drew
 have d2 := d1.s3 (bto + n)
 have e1 := (Fr.set h.bw h.low 1 (.int .u64 (m : Int))).trans (Fr.drew (Fr.set d1.bw d1.low 3 (.int .u64 ((bto + n : Nat) : Int))))
 rw [show ((bto + n : Nat) : Int) = (bto : Int) + (n : Int) by omega] at d2 e1
 have D2 := Aside0.mk d2
 have E1 := Aside0.mk e1
 have hd : decide ((bto : Int) + (n : Int) ≥ 64) = true := decide_eq_true (by omega)
 have HM := Aside0.mk hm
 have HL := Aside0.mk (And.intro hl h.2.2.2.2.1)
 clear h d1 d2 e1 hb hm hl
 go_enter Tryz.func95, Tryz.ntmps95
 go_wp2
 go_still_tail 13, (by kernel_rfl)
 change wpList _ _ _ _ _ w.drew
 go_wp2
 have b1 := D2.out
 change Bs ((w.setCell ⟨W, 1, none⟩ (.int .u64 (m : Int))).setCell ⟨W, 3, none⟩ (.int .u64 ((bto : Int) + (n : Int)))).drew _ _ _ _ _ _ _ _ at b1
 clear r1 r3 z1 z3
 have f1 : Fr lo w ((w.setCell ⟨W, 1, none⟩ (.int .u64 (m : Int))).setCell ⟨W, 3, none⟩ (.int .u64 ((bto : Int) + (n : Int)))).drew := E1.out
 generalize ((w.setCell ⟨W, 1, none⟩ (.int .u64 (m : Int))).setCell ⟨W, 3, none⟩ (.int .u64 ((bto : Int) + (n : Int)))).drew = w1 at b1 f1 ⊢
 have r1 := b1.bw.c1
 have HP := Aside0.mk (put64_calls W _ _ _ _ rs 8 m w1.drew b1.bw.drew HM.out)
 have B1 := Aside0.mk b1
 have F1 := Aside0.mk f1
 clear b1 f1 D2 E1
 go_still_tail 9, (by kernel_rfl)
 change wpList _ _ _ _ _ w1.drew
 go_upto_region 5 with (first | (go_at_call 97; refine HP.out.mono ?_; rintro e w2 ⟨rfl, e1, e2, e3⟩; have b2 := B1.out.kept ⟨e2.1, e2.2⟩ e1; have f2 := F1.out.trans (Fr.of_bw B1.out.bw B1.out.low ((below_drew (Below.refl _ _)).trans e3) ⟨e2.1, e2.2⟩); have r0 := b2.bw.c0; have r2 := b2.bw.c2; have hW := bs_wat (b2.drewN 1) ⟨W, 4, none⟩ 8 (toB 8 m) done.length (by rw [toB_len]; omega) (by rw [toB_len]; exact HL.out.1) (src_raw (w := w2.drewN 1) (t := rs.drop 8) (⟨e1.1, e1.2⟩ : Bw (w2.drewN 1) _ _ _ _ _ _) 8 (by omega)); rw [toB_len] at hW; have HW := Aside0.mk hW; have F2 := Aside0.mk f2; clear b2 f2 e1 e2 e3 hW))
 go_region_held3 (fun w' => w'.cell? ⟨W, 0, none⟩ = some (.iface 182 (.pointer (some ⟨S.B, 0, none⟩))) ∧ w'.cell? ⟨W, 2, none⟩ = some (.int .i64 (done.length : Int))) (go_keep) (first | (go_at_call 188; go_loud (refine HW.out.mono ?_; rintro e w3 ⟨⟨q, rfl⟩, p1, p2, p3⟩; have b3 := p1 rfl; have q0 := b3.bw.c0; have q1 := b3.bw.c1; have q2 := b3.bw.c2; have q3 := b3.bw.c3; have z1 := b3.bw.f 1; have z2 := b3.bw.f 2; have z3 := b3.bw.f 3; have B3 := Aside0.mk b3; have F3 := Aside0.mk (F2.out.trans (Fr.drewN 1 p3)); clear b3 p1 p2 p3)))
 go_wp2
 go_ret
 have hw : wrap64 ((done.length : Int) + 8) = ((done.length + 8 : Nat) : Int) := by have := HL.out; unfold wrap64; omega
 have h3 : (bto : Int) + (n : Int) - 64 = ((bto + n - 64 : Nat) : Int) := by omega
 have h4 : n - (bto + n - 64) = 64 - bto := by omega
 have h5 : (v : Int) / 2 ^ (64 - bto) = ((v / 2 ^ (64 - bto) : Nat) : Int) := by simp
 rw [hw, h3, h4, h5]
 have d1 := B3.out.s1 0
 have d2 := d1.s2 (done.length + 8)
 have d3 := d2.s3 (bto + n - 64)
 have d4 := d3.s1 (v / 2 ^ (64 - bto))
 exact ⟨rfl, ⟨_, d4⟩, (((F3.out.trans (Fr.set B3.out.bw B3.out.low 1 _)).trans (Fr.set d1.bw d1.low 2 _)).trans (Fr.set d2.bw d2.low 3 _)).trans (Fr.set d3.bw d3.low 1 _)⟩
end Go.Proofs.YtiieljnllgeoeaaGreat.Q
