/- Several texts of ours in one: Fi, Fj, Fk. -/
import Derived.Test.YtiieljnllgeoeaaGreatFh
/- The writer of bits: bytes, and a number of bits behind them. -/
namespace Go.Proofs.YtiieljnllgeoeaaGreat.Q
open Go.RowKit Go.Proofs.YtiieljnllgeoeaaGreatW.PrintWords Go.Proofs.YtiieljnllgeoeaaGreatW.PrintLast Go.Proofs.YtiieljnllgeoeaaGreatW.PrintMore
set_option linter.unusedVariables false
set_option linter.unusedSimpArgs false
/-- The bytes that are there when a number of so many bits stands behind some. -/
def thr (pre : List Int) (N bits : Nat) : List Int := pre ++ toB (8 * (bits / 64)) N
theorem thr_len (pre : List Int) (N bits : Nat) : (thr pre N bits).length = pre.length + 8 * (bits / 64) := by simp [thr, toB_len]
def St (w : World) (lo W : Nat) (S : Sk) (pre : List Int) (N bits : Nat) : Prop :=
 N < 2 ^ bits ∧ ∃ rs, Bs w lo W S (thr pre N bits) (thr pre N bits).length (N / 2 ^ (64 * (bits / 64))) (bits % 64) rs
theorem p256 (q : Nat) : (256 : Nat) ^ (8 * q) = 2 ^ (64 * q) := by
 rw [show (256 : Nat) = 2 ^ 8 by rfl, ← Nat.pow_mul, show 8 * (8 * q) = 64 * q by omega]
theorem wait_lt {N bits : Nat} (h : N < 2 ^ bits) : N / 2 ^ (64 * (bits / 64)) < 2 ^ (bits % 64) := by
 rw [Nat.div_lt_iff_lt_mul (Nat.two_pow_pos _), ← Nat.pow_add, show bits % 64 + 64 * (bits / 64) = bits by omega]
 exact h
theorem wait_64 {N bits : Nat} (h : N < 2 ^ bits) : N / 2 ^ (64 * (bits / 64)) < 18446744073709551616 := by
 have h1 := wait_lt h
 have h2 : (2 : Nat) ^ (bits % 64) ≤ 2 ^ 64 := Nat.pow_le_pow_right (by omega) (by omega)
 omega
theorem full_thr {N bits : Nat} (pre : List Int) : full (thr pre N bits) (N / 2 ^ (64 * (bits / 64))) (bits % 64) = pre ++ toB ((bits + 7) / 8) N := by
 unfold full thr
 rw [List.append_assoc]
 congr 1
 rw [show (bits + 7) / 8 = 8 * (bits / 64) + (bits % 64 + 7) / 8 by omega, toB_add, p256]
/-- A value is put behind the number. -/
theorem step_split (N v bits : Nat) : N + v * 2 ^ bits = N + (v * 2 ^ (bits % 64)) * 2 ^ (64 * (bits / 64)) := by
 rw [Nat.mul_assoc, ← Nat.pow_add, show bits % 64 + 64 * (bits / 64) = bits by omega]
theorem step_hi (N v bits : Nat) : (N + v * 2 ^ bits) / 2 ^ (64 * (bits / 64)) = N / 2 ^ (64 * (bits / 64)) + v * 2 ^ (bits % 64) := by
 rw [step_split, Nat.add_mul_div_right _ _ (Nat.two_pow_pos _)]
theorem step_lo (pre : List Int) (N v bits : Nat) : toB (8 * (bits / 64)) (N + v * 2 ^ bits) = toB (8 * (bits / 64)) N := by
 rw [step_split, ← p256]
 exact toB_lo _ _ _ _ (Nat.le_refl _)
theorem step_lt {N v bits n : Nat} (h : N < 2 ^ bits) (hv : v < 2 ^ n) : N + v * 2 ^ bits < 2 ^ (bits + n) := by
 have : (v + 1) * 2 ^ bits ≤ 2 ^ n * 2 ^ bits := Nat.mul_le_mul_right _ hv
 rw [Nat.add_mul, Nat.one_mul, ← Nat.pow_add, Nat.add_comm n bits] at this
 omega
theorem st_val {w : World} {lo W : Nat} {S : Sk} {pre : List Int} {N bits : Nat} (v n : Nat) (h : St w lo W S pre N bits) (hn : n ≤ 64) (hv : v < 2 ^ n) (hl : pre.length + (bits + n + 7) / 8 ≤ S.n) :
  Calls Tryz.prog 95 #[.pointer (some ⟨W, 0, none⟩), .int .u64 (v : Int), .int .u64 (n : Int)] w fun e w' => e = .returned .nilIface ∧ St w' lo W S pre (N + v * 2 ^ bits) (bits + n) ∧ Fr lo w w' := by
 obtain ⟨hN, rs, hb⟩ := h
 have hw := wait_lt hN
 have hlen := thr_len pre N bits
 have hN2 := step_lt hN hv
 have hi := step_hi N v bits
 have hlo := step_lo pre N v bits
 have hv64 : v < 18446744073709551616 := by
  have : (2 : Nat) ^ n ≤ 2 ^ 64 := Nat.pow_le_pow_right (by omega) hn
  omega
 by_cases c : bits % 64 + n < 64
 ·refine (val_lo v n hb hw (Nat.mod_lt _ (by omega)) c).mono ?_
  rintro e w' ⟨he, b1, f1⟩
  refine ⟨he, ⟨hN2, rs, ?_⟩, f1⟩
  have hd : (bits + n) / 64 = bits / 64 := by omega
  have hm : (bits + n) % 64 = bits % 64 + n := by omega
  have hs : N / 2 ^ (64 * (bits / 64)) + v * 2 ^ (bits % 64) < 18446744073709551616 := by
   have h1 := step_lt hw hv
   have h2 : (2 : Nat) ^ (bits % 64 + n) ≤ 2 ^ 64 := Nat.pow_le_pow_right (by omega) (by omega)
   omega
  rw [Nat.mod_eq_of_lt hs] at b1
  have ht : thr pre (N + v * 2 ^ bits) (bits + n) = thr pre N bits := by unfold thr; rw [hd, hlo]
  rw [ht, hd, hm, hi]
  exact b1
 ·refine (val_hi v n hb hw (Nat.mod_lt _ (by omega)) (by omega) hn (by omega) hv64).mono ?_
  rintro e w' ⟨he, ⟨rs', b1⟩, f1⟩
  refine ⟨he, ⟨hN2, rs', ?_⟩, f1⟩
  have hd : (bits + n) / 64 = bits / 64 + 1 := by omega
  have hm : (bits + n) % 64 = bits % 64 + n - 64 := by omega
  have ht : thr pre (N + v * 2 ^ bits) (bits + n) = thr pre N bits ++ toB 8 ((N / 2 ^ (64 * (bits / 64)) + v * 2 ^ (bits % 64)) % 18446744073709551616) := by
   have e8 := toB_mod 8 (N / 2 ^ (64 * (bits / 64)) + v * 2 ^ (bits % 64)) 8 (Nat.le_refl _)
   rw [show (256 : Nat) ^ 8 = 18446744073709551616 by rfl] at e8
   unfold thr
   rw [hd, Nat.mul_add, Nat.mul_one, toB_add, hlo, p256, hi, e8, List.append_assoc]
  have h3 : (N + v * 2 ^ bits) / 2 ^ (64 * ((bits + n) / 64)) = (N / 2 ^ (64 * (bits / 64)) + v * 2 ^ (bits % 64)) / 18446744073709551616 := by
   rw [hd, Nat.mul_add, Nat.mul_one, Nat.pow_add, ← Nat.div_div_eq_div_mul, hi]
  rw [ht, h3, hm]
  have hl8 : (thr pre N bits ++ toB 8 ((N / 2 ^ (64 * (bits / 64)) + v * 2 ^ (bits % 64)) % 18446744073709551616)).length = (thr pre N bits).length + 8 := by simp [toB_len]
  rw [hl8]
  exact b1
theorem St.of_bs {w : World} {lo W : Nat} {S : Sk} {l : List Int} {rs : List Int} (h : Bs w lo W S l l.length 0 0 rs) : St w lo W S l 0 0 :=
 ⟨by simp, rs, by simpa [thr, toB] using h⟩
theorem st_vlq {w : World} {lo W : Nat} {S : Sk} {pre : List Int} {N bits : Nat} (n : Nat) (h : St w lo W S pre N bits) (hl : pre.length + (bits + 7) / 8 + (leb n).length ≤ S.n) (hn : n < 18446744073709551616) :
  Calls Tryz.prog 92 #[.pointer (some ⟨W, 0, none⟩), .int .u64 (n : Int)] w fun e w' => e = .returned (.bool true) ∧ St w' lo W S (pre ++ toB ((bits + 7) / 8) N ++ leb n) 0 0 ∧ Fr lo w w' := by
 obtain ⟨hN, rs, hb⟩ := h
 have hlen := thr_len pre N bits
 refine (vlq_calls n hb (wait_64 hN) (Nat.mod_lt _ (by omega)) (by omega) hn).mono ?_
 rintro e w' ⟨he, ⟨rs', b1⟩, f1⟩
 rw [full_thr] at b1
 exact ⟨he, St.of_bs b1, f1⟩
theorem st_skip {w : World} {lo W : Nat} {S : Sk} {pre : List Int} {N bits : Nat} (h : St w lo W S pre N bits) (hl : pre.length + (bits + 7) / 8 + 1 ≤ S.n) :
  Calls Tryz.prog 94 #[.pointer (some ⟨W, 0, none⟩), .int .i64 1] w fun e w' => e = .returned (.tuple #[.int .i64 ((pre ++ toB ((bits + 7) / 8) N).length : Int), .nilIface]) ∧ St w' lo W S (pre ++ toB ((bits + 7) / 8) N ++ [0]) 0 0 ∧ Fr lo w w' := by
 obtain ⟨hN, rs, hb⟩ := h
 have hlen := thr_len pre N bits
 refine (skip_calls hb (wait_64 hN) (Nat.mod_lt _ (by omega)) (by omega)).mono ?_
 rintro e w' ⟨he, ⟨rs', b1⟩, f1⟩
 rw [full_thr] at b1 he
 exact ⟨he, St.of_bs b1, f1⟩
set_option maxHeartbeats 2000000 in
set_option maxRecDepth 100000 in
theorem at_calls {w : World} {lo W : Nat} {S : Sk} {done : List Int} {byo buf bto : Nat} {rs : List Int} (X : Addr) (off : Nat) (b : Int) (h : Bs w lo W S done byo buf bto rs) (ho : off < done.length) (hX : Src w X [b]) :
  Calls Tryz.prog 96 #[.pointer (some ⟨W, 0, none⟩), .slice (some X) 1 1, .int .i64 (off : Int)] w fun e w' => (∃ n, e = .returned (.tuple #[.int .i64 n, .nilIface])) ∧ Bs w' lo W S (done.set off b) byo buf bto rs ∧ Fr lo w w' := by
 have r0 := h.bw.c0
 have HW := Aside0.mk (bs_wat h X 1 [b] off (by simp) (by have := h.2.2.2.1; simp; omega) hX)
 have HO := Aside0.mk ho
 clear h ho hX
 go_enter Tryz.func96, Tryz.ntmps96
 go_wp2_with (first | (go_at_call 188; refine HW.out.mono ?_; rintro e w1 ⟨⟨n, rfl⟩, p1, p2, p3⟩; have P2 := Aside0.mk (p2 b HO.out rfl); have P3 := Aside0.mk p3; clear p1 p2 p3))
 go_ret2
 exact ⟨⟨_, rfl⟩, P2.out, P3.out⟩
theorem st_at {w : World} {lo W : Nat} {S : Sk} {pre : List Int} {N bits : Nat} (X : Addr) (off : Nat) (b : Int) (h : St w lo W S pre N bits) (ho : off < pre.length) (hX : Src w X [b]) :
  Calls Tryz.prog 96 #[.pointer (some ⟨W, 0, none⟩), .slice (some X) 1 1, .int .i64 (off : Int)] w fun e w' => (∃ n, e = .returned (.tuple #[.int .i64 n, .nilIface])) ∧ St w' lo W S (pre.set off b) N bits ∧ Fr lo w w' := by
 obtain ⟨hN, rs, hb⟩ := h
 have hlen := thr_len pre N bits
 refine (at_calls X off b hb (by omega) hX).mono ?_
 rintro e w' ⟨he, b1, f1⟩
 have e1 : (thr pre N bits).set off b = thr (pre.set off b) N bits := by unfold thr; rw [List.set_append_left _ _ ho]
 have e2 : (thr (pre.set off b) N bits).length = (thr pre N bits).length := by simp [thr]
 rw [e1] at b1
 exact ⟨he, ⟨hN, rs, by rw [e2]; exact b1⟩, f1⟩
end Go.Proofs.YtiieljnllgeoeaaGreat.Q

/- The writer of bits: a number's lowest bytes; what waits written, not passed. -/
namespace Go.Proofs.YtiieljnllgeoeaaGreat.Q
open Go.RowKit Go.Proofs.YtiieljnllgeoeaaGreatW.PrintWords Go.Proofs.YtiieljnllgeoeaaGreatW.PrintLast Go.Proofs.YtiieljnllgeoeaaGreatW.PrintMore
set_option linter.unusedVariables false
set_option linter.unusedSimpArgs false
set_option maxHeartbeats 4000000 in
set_option maxRecDepth 100000 in
theorem aligned_calls {w : World} {lo W : Nat} {S : Sk} {done : List Int} {buf bto : Nat} {rs : List Int} (x n : Nat) (h : Bs w lo W S done done.length buf bto rs) (hb : buf < 18446744073709551616) (ht : bto < 64) (hx : x < 18446744073709551616) (hn : 0 < n ∧ n ≤ 8) (hl : done.length + (bto + 7) / 8 + n ≤ S.n) :
  Calls Tryz.prog 93 #[.pointer (some ⟨W, 0, none⟩), .int .u64 (x : Int), .int .i64 (n : Int)] w fun e w' => e = .returned (.bool true) ∧ (∃ rs', Bs w' lo W S (full done buf bto ++ toB n x) (full done buf bto ++ toB n x).length 0 0 rs') ∧ Fr lo w w' := by
 have HF := Aside0.mk (flush_calls h hb ht (by omega))
 have hlen := full_len done buf bto
 rw [show done ++ toB ((bto + 7) / 8) buf = full done buf bto from rfl, ← hlen] at HF
 have hfl : (full done buf bto).length + n ≤ S.n ∧ S.n ≤ 16777216 := ⟨by omega, h.2.2.2.2.1⟩
 generalize full done buf bto = D at HF hfl ⊢
 have HFL := Aside0.mk hfl
 have HN := Aside0.mk hn
 have HX := Aside0.mk hx
 have hsl := slice_raw W n hn.2
 clear h hb ht hl hlen hfl hn hx
 go_enter Tryz.func93, Tryz.ntmps93
 go_wp2_with (first | (go_at_call 82; refine HF.out.mono ?_; rintro e w1 ⟨rfl, ⟨rs1, b1⟩, f1⟩; have HP := Aside0.mk (put64_calls W _ _ _ _ rs1 8 x w1.drew b1.bw.drew HX.out); have B1 := Aside0.mk b1; have F1 := Aside0.mk f1; clear b1 f1))
 go_still_tail 6, (by kernel_rfl)
 change wpList _ _ _ _ _ w1.drew
 go_upto_region 3 with (first | (go_at_call 97; refine HP.out.mono ?_; rintro e w2 ⟨rfl, e1, e2, e3⟩; have b2 := B1.out.kept ⟨e2.1, e2.2⟩ e1; have f2 := F1.out.trans (Fr.of_bw B1.out.bw B1.out.low ((below_drew (Below.refl _ _)).trans e3) ⟨e2.1, e2.2⟩); have r0 := b2.bw.c0; have r2 := b2.bw.c2; have hW := bs_wat (b2.drewN 1) ⟨W, 4, none⟩ 8 (toB n x) D.length (by rw [toB_len]; exact HN.out.1) (by rw [toB_len]; exact HFL.out.1) (src_raw (w := w2.drewN 1) (t := rs1.drop 8) (⟨e1.1, e1.2⟩ : Bw (w2.drewN 1) _ _ _ _ _ _) n HN.out.2); rw [toB_len] at hW; have HW := Aside0.mk hW; have F2 := Aside0.mk f2; clear b2 f2 e1 e2 e3 hW))
 go_region_held3 (fun w' => w'.cell? ⟨W, 0, none⟩ = some (.iface 182 (.pointer (some ⟨S.B, 0, none⟩))) ∧ w'.cell? ⟨W, 2, none⟩ = some (.int .i64 (D.length : Int))) (go_keep) (first | (go_at_call 188; go_loud (refine HW.out.mono ?_; rintro e w3 ⟨⟨q, rfl⟩, p1, p2, p3⟩; have b3 := p1 rfl; have q0 := b3.bw.c0; have q2 := b3.bw.c2; have z2 := b3.bw.f 2; have B3 := Aside0.mk b3; have F3 := Aside0.mk (F2.out.trans (Fr.drewN 1 p3)); clear b3 p1 p2 p3)))
 go_wp2
 go_ret
 have hw : wrap64 ((D.length : Int) + (n : Int)) = (((D ++ toB n x).length : Nat) : Int) := by have := HFL.out.1; have := HFL.out.2; unfold wrap64; simp [toB_len]; omega
 rw [hw]
 exact ⟨rfl, ⟨_, B3.out.s2 _⟩, F3.out.trans (Fr.set B3.out.bw B3.out.low 2 _)⟩
end Go.Proofs.YtiieljnllgeoeaaGreat.Q

/- The writer of bits: what waits written, but not passed; the end. -/
namespace Go.Proofs.YtiieljnllgeoeaaGreat.Q
open Go.RowKit Go.Proofs.YtiieljnllgeoeaaGreatW.PrintWords Go.Proofs.YtiieljnllgeoeaaGreatW.PrintLast Go.Proofs.YtiieljnllgeoeaaGreatW.PrintMore
set_option linter.unusedVariables false
set_option linter.unusedSimpArgs false
theorem st_aligned {w : World} {lo W : Nat} {S : Sk} {pre : List Int} {N bits : Nat} (x n : Nat) (h : St w lo W S pre N bits) (hx : x < 18446744073709551616) (hn : 0 < n ∧ n ≤ 8) (hl : pre.length + (bits + 7) / 8 + n ≤ S.n) :
  Calls Tryz.prog 93 #[.pointer (some ⟨W, 0, none⟩), .int .u64 (x : Int), .int .i64 (n : Int)] w fun e w' => e = .returned (.bool true) ∧ St w' lo W S (pre ++ toB ((bits + 7) / 8) N ++ toB n x) 0 0 ∧ Fr lo w w' := by
 obtain ⟨hN, rs, hb⟩ := h
 have hlen := thr_len pre N bits
 refine (aligned_calls x n hb (wait_64 hN) (Nat.mod_lt _ (by omega)) hx hn (by omega)).mono ?_
 rintro e w' ⟨he, ⟨rs', b1⟩, f1⟩
 rw [full_thr] at b1
 exact ⟨he, St.of_bs b1, f1⟩
set_option maxHeartbeats 4000000 in
set_option maxRecDepth 100000 in
/-- What waits, written; the writer's place stays. -/
theorem flushf_calls {w : World} {lo W : Nat} {S : Sk} {done : List Int} {buf bto : Nat} {rs : List Int} (h : Bs w lo W S done done.length buf bto rs) (hb : buf < 18446744073709551616) (ht : bto < 64) (hl : done.length + (bto + 7) / 8 ≤ S.n) :
  Calls Tryz.prog 82 #[.pointer (some ⟨W, 0, none⟩), .bool false] w fun e w' => e = .returned (.tuple #[]) ∧ (∃ rs', Bs w' lo W S (done ++ toB ((bto + 7) / 8) buf) done.length buf bto rs') ∧ Fr lo w w' := by
 have hD : done.length ≤ 16777216 := Nat.le_trans h.2.2.2.1 h.2.2.2.2.1
 by_cases c : bto = 0
 ·subst c
  have r3 : w.cell? ⟨W, 3, none⟩ = some (.int .u64 0) := h.bw.c3
  have D3 := Aside0.mk h
  clear h
  go_enter Tryz.func82, Tryz.ntmps82
  go_wp2
  go_end0
  refine ⟨rfl, ⟨rs, ?_⟩, Fr.refl _ _⟩
  simpa [toB] using D3.out
 ·have hd : decide ((bto : Int) > 0) = true := decide_eq_true (by omega)
  have r3 := h.bw.c3
  have r2 := h.bw.c2
  have r1 := h.bw.c1
  have r0 := h.bw.c0
  have HB := Aside0.mk (bfb_calls bto (by omega) w)
  have hn : 0 < (bto + 7) / 8 ∧ (bto + 7) / 8 ≤ 8 := by omega
  generalize (bto + 7) / 8 = n at HB hn hl ⊢
  have HL := Aside0.mk hl
  have HP := Aside0.mk (put64_calls W _ _ _ _ rs 8 buf w.drew h.bw.drew hb)
  have H := Aside0.mk h
  have HN := Aside0.mk hn
  have hsl := slice_raw W n hn.2
  clear h hn
  go_enter Tryz.func82, Tryz.ntmps82
  go_wp2_with (first | (go_at_call 75; refine HB.out.mono ?_; rintro e w1 ⟨rfl, hw1⟩; subst w1))
  go_still_tail 9, (by kernel_rfl)
  change wpList _ _ _ _ _ w.drew
  go_wp2_with (first | (go_at_call 97; refine HP.out.mono ?_; rintro e w1 ⟨rfl, e1, e2, e3⟩; have E := Aside0.mk (And.intro e1 (And.intro e2 e3)); clear e1 e2 e3))
  obtain ⟨e1, e2, e3⟩ := E.out
  clear r0 r1 r2 r3
  have r0 := e1.c0
  have r2 := e1.c2
  have hbs : Bs w1 lo W S done done.length buf bto (toB 8 buf ++ rs.drop 8) := H.out.kept ⟨e2.1, e2.2⟩ e1
  have hfr1 : Fr lo w w1 := Fr.of_bw H.out.bw H.out.low ((below_drew (Below.refl _ _)).trans e3) ⟨e2.1, e2.2⟩
  have hW := bs_wat hbs.drew ⟨W, 4, none⟩ 8 (toB n buf) done.length (by rw [toB_len]; exact HN.out.1) (by rw [toB_len]; exact HL.out) (src_raw (w := w1.drew) (t := rs.drop 8) ⟨e1.1, e1.2⟩ n HN.out.2)
  rw [toB_len] at hW
  have HW := Aside0.mk hW
  have FR := Aside0.mk hfr1
  clear hW hbs hfr1 e1 e2 e3 E HP
  go_wp2
  go_still_tail 15, (by kernel_rfl)
  change wpList _ _ _ _ _ w1.drew
  go_wp2_with (first | (go_at_call 188; refine HW.out.mono ?_; rintro e w2 ⟨⟨m, rfl⟩, p1, p2, p3⟩; have hb2 := p1 rfl; have fr2 := FR.out.trans (Fr.drew p3); have B2 := Aside0.mk hb2; have F2 := Aside0.mk fr2; clear hb2 fr2 p1 p2 p3))
  go_end0
  exact ⟨rfl, ⟨_, B2.out⟩, F2.out⟩
end Go.Proofs.YtiieljnllgeoeaaGreat.Q
