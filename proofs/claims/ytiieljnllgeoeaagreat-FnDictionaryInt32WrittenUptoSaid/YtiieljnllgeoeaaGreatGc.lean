/- The writer of runs: a repeated value written. -/
import Derived.Test.YtiieljnllgeoeaaGreatGb
namespace Go.Proofs.YtiieljnllgeoeaaGreat.Q
open Go.RowKit Go.Proofs.YtiieljnllgeoeaaGreatW.PrintWords Go.Proofs.YtiieljnllgeoeaaGreatW.PrintLast Go.Proofs.YtiieljnllgeoeaaGreatW.PrintMore
set_option linter.unusedVariables false
set_option linter.unusedSimpArgs false
set_option maxHeartbeats 4000000 in
set_option maxRecDepth 100000 in
theorem rep_calls {w : World} {lo R W Q wd cur rep lit : Nat} {bf : List Nat} {dn : List Int} {off : Int} {S : Sk} (h : Ob w lo R W Q wd bf cur rep lit off) (hs : Sm w lo W S dn) (hwd : 1 ≤ wd ∧ wd ≤ 32) (hcur : cur < 18446744073709551616) (hrep : rep < 1048576) (hroom : dn.length + (rp wd rep cur).length ≤ S.n) (hn : S.n ≤ 16777216) :
  Calls Tryz.prog 78 #[.pointer (some ⟨R, 0, none⟩)] w fun e w' => e = .returned (.bool true) ∧ Ob w' lo R W Q wd [] cur 0 lit off ∧ Sm w' lo W S (dn ++ rp wd rep cur) ∧ FrE lo w w' := by
 obtain ⟨pre, N, bits, hs, hp⟩ := hs
 have hlen : (pre ++ toB ((bits + 7) / 8) N).length = dn.length := by rw [hp]
 rw [List.length_append, toB_len] at hlen
 have hrl : (rp wd rep cur).length = (leb (2 * rep)).length + (wd + 7) / 8 := by unfold rp; rw [List.length_append, toB_len]
 have r4 := h.c4
 have r0 := h.c0
 have HV := Aside0.mk (st_vlq (2 * rep) hs (by omega) (by omega))
 rw [hp] at HV
 have hcv : IntKind.u64.wrap (rep : Int) = (rep : Int) := by simp [IntKind.wrap, IntKind.bits, IntKind.signed]; omega
 have hcv2 : IntKind.u64.wrap ((rep : Int) * 2) = ((2 * rep : Nat) : Int) := by simp [IntKind.wrap, IntKind.bits, IntKind.signed]; omega
 have hcv3 : ((rep : Int) * 2) % 18446744073709551616 = ((2 * rep : Nat) : Int) := by omega
 have hcv4 : (rep : Int) % 18446744073709551616 = (rep : Int) := by omega
 have H := Aside0.mk h
 have HN := Aside0.mk (And.intro hwd (And.intro hcur (And.intro hrl (And.intro hroom hn))))
 clear h hs hp hlen hwd hcur hrep hrl hroom hn
 obtain ⟨r2, hr2⟩ : ∃ r2, r2 = 2 * rep := ⟨_, rfl⟩
 rw [← hr2] at HV hcv2 hcv3
 have HR2 := Aside0.mk hr2
 clear hr2
 go_enter Tryz.func78, Tryz.ntmps78
 go_upto_region 3 with (first | (go_at_call 92; with_reducible refine HV.out.mono ?_; rintro e w1 ⟨rfl, s1, f1⟩; have o1 := H.out.fr f1; have S1 := Aside0.mk s1; have F1 := Aside0.mk f1; have O1 := Aside0.mk o1; clear s1 f1 o1))
 have y0 := O1.out.c0
 have y2 := O1.out.c2
 have y3 := O1.out.c3
 have HB := Aside0.mk (bfb_calls wd (by have := HN.out.1; omega) w1.drew)
 have HA := Aside0.mk (st_aligned cur ((wd + 7) / 8) S1.out.drew HN.out.2.1 (by have := HN.out.1; omega) (by
  have h1 := HN.out.2.2.1
  have h2 := HN.out.2.2.2.1
  have h3 := HR2.out
  rw [← h3] at h1
  rw [List.length_append]
  omega))
 clear r0 r4
 generalize hn8 : (wd + 7) / 8 = n8 at HB HA
 have HN8 := Aside0.mk hn8
 clear hn8
 go_still_tail 15, (by kernel_rfl)
 still_call HB.out
 repeat still_step
 try refine wpStill_nil ?_
 change wpList _ _ _ _ _ w1.drew
 go_wp2_with (first | (go_at_call 93; go_loud (with_reducible refine HA.out.mono ?_; rintro e w2 ⟨rfl, s2, f2⟩; have f2' := Fr.drew f2; have o2 := O1.out.fr f2'; have z4 := o2.c4; have v4 := o2.f 4; have o3 := o2.z4; have z1 := o3.c1; have v1 := o3.f 1; have hs0 := slice_q0 Q bf.length 8; have S2 := Aside0.mk s2; have F2 := Aside0.mk f2'; have O2 := Aside0.mk o2; have O3 := Aside0.mk o3; clear s2 f2 f2' o2 o3)))

 go_ret
 refine ⟨rfl, O3.out.s1, ⟨_, _, _, O3.out.stR (O2.out.stR S2.out 4 _) 1 _, ?_⟩, ((F1.out.trans F2.out).e.trans (O2.out.setR 4 _)).trans (O3.out.setR 1 _)⟩
 unfold rp
 rw [← HR2.out, HN8.out]
 simp [toB]
end Go.Proofs.YtiieljnllgeoeaaGreat.Q
