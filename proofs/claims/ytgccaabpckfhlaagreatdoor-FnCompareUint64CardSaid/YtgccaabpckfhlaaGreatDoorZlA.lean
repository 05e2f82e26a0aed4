/- The kernel of two lists. -/
import Derived.Test.YtgccaabpckfhlaaGreatDoorZk
import Derived.Deep.RegionHeld3
import Derived.Shelf.Abstract
namespace Go.Proofs.YtgccaabpckfhlaaGreatDoor.Q
open Go.RowKit Go.Proofs.YtgccaabpckfhlaaGreatDoorW.PrintWords Go.Proofs.YtgccaabpckfhlaaGreatDoorW.PrintLast Go.Proofs.YtgccaabpckfhlaaGreatDoorW.PrintMore
attribute [local go_sem] max2_int min2_int max_two min_two
set_option linter.unusedVariables false
set_option linter.unusedSimpArgs false
set_option maxHeartbeats 4000000 in
set_option maxRecDepth 100000 in
theorem kAA_calls (op F X Y O P frm c B co : Nat) (A : Option Addr) (xs ys bs : List Int) (w : World) (he : ∀ (args : Array Value) (w : World), (callFunc F args).run Tryz.prog w = .ok (.enter F args) w) (hc : CmpAA op F) (hx : Row w X (xs.flatMap le8)) (hy : Row w Y (ys.flatMap le8)) (hl : xs.length = ys.length) (hm : xs.length ≤ 300) (hmx : xs.length ≤ 1048576) (hmy : ys.length ≤ 1048576) (hbx : ∀ x ∈ xs, 0 ≤ x ∧ x < 18446744073709551616) (hby : ∀ x ∈ ys, 0 ≤ x ∧ x < 18446744073709551616) (hp : w.cell? ⟨P, 0, none⟩ = some (fv F)) (hg : Glob w) (ho : Ob w B O co bs) (hA : At A O 0 bs.length) (hmc : bs.length ≤ c) (ok : BytesOk bs) (hfr : frm ≤ 7) (hroom : frm + xs.length ≤ 8 * bs.length) (hbl : bs.length ≤ 100) (hO : 0 < bs.length → O < w.heap.size ∧ P ≠ O ∧ 2 ≠ O ∧ 3 ≠ O) :
    Calls Tryz.prog 64 #[.slice (some ⟨X, 0, none⟩) (8 * xs.length) (8 * xs.length), .slice (some ⟨Y, 0, none⟩) (8 * ys.length) (8 * ys.length), .slice A bs.length c, .int .i64 (frm : Int), .pointer (some ⟨P, 0, none⟩)] w fun e w' => e = .returned (.tuple #[]) ∧ Ob w' B O co (tells (fun i => cmpB op (xs.getD i 0) (ys.getD i 0)) frm xs.length bs) ∧ Tn (SO O bs) w w' := by
  obtain ⟨b, hb⟩ : ∃ b : Nat → Bool, b = (fun i => cmpB op (xs.getD i 0) (ys.getD i 0)) := ⟨_, rfl⟩
  rw [← hb]
  have hfin : ∀ bs2, Told b frm xs.length bs bs2 → bs2 = tells b frm xs.length bs := fun bs2 h2 => h2.unique (tells_told b frm bs ok _ hroom)
  have HFIN := Aside0.mk hfin
  have hglt := hg.block
  have hPlt := World.block_lt_of_cell? w _ hp
  have h0 : Told b frm 0 bs bs := ⟨rfl, ok, fun _ _ => rfl, fun i hi => absurd hi (by omega), fun _ _ => rfl⟩
  have H0 := Aside0.mk h0
  have HB := Aside0.mk hb
  have HC := Aside0.mk hc
  have HP := Aside0.mk hp
  have HG := Aside0.mk hg
  have HOB := Aside0.mk ho
  have HA := Aside0.mk hA
  have HO := Aside0.mk hO
  have HLT := Aside0.mk (And.intro hglt hPlt)
  have HL := Aside0.mk hl
  have HM := Aside0.mk hm
  have HMC := Aside0.mk hmc
  have HROOM := Aside0.mk hroom
  have HBL := Aside0.mk hbl
  have HX := Aside0.mk hx
  have HY := Aside0.mk hy
  have GX := Aside0.mk (getData_calls X xs w hx hmx hbx)
  have GY := Aside0.mk (fun W (hW : Row W Y (ys.flatMap le8)) => getData_calls Y ys W hW hmy hby)
  have tmodf : Int.tmod (frm : Int) 8 = (frm : Int) := by rw [Int.tmod_eq_emod_of_nonneg (by omega)]; omega
  have f7 : (frm : Int) ≤ 7 := by omega
  have f0 : (0 : Int) ≤ (frm : Int) := by omega
  have n300 : (xs.length : Int) ≤ 300 := by omega
  clear hfin h0 hb hc hp hg ho hA hO hglt hPlt hl hm hmc hroom hbl hx hy hmx hmy hbx hby hfr ok
  go_enter Tryz.func64, Tryz.ntmps64
  go_upto_region 5 with (first | (go_at_call 65; refine GX.out.mono ?_; rintro e w1 ⟨D1, rfl, z1, r1, b1⟩; have E1 := Aside0.mk (And.intro z1 (And.intro r1 b1)); have GY1 := Aside0.mk (GY.out w1 (HY.out.below b1)); clear GX GY z1 r1 b1) | (go_at_call 65; refine GY1.out.mono ?_; rintro e w2 ⟨D2, rfl, z2, r2, b2⟩; have E2 := Aside0.mk (And.intro z2 (And.intro r2 b2)); clear GY1 z2 r2 b2))
  obtain ⟨T, hT⟩ : ∃ T, T = w2.heap.size := ⟨_, rfl⟩
  have hzr : RowK .u32 162 (w2.alloc (.cells #[.int .u32 0, .int .u32 0, .int .u32 0, .int .u32 0, .int .u32 0, .int .u32 0, .int .u32 0, .int .u32 0, .int .u32 0, .int .u32 0, .int .u32 0, .int .u32 0, .int .u32 0, .int .u32 0, .int .u32 0, .int .u32 0, .int .u32 0, .int .u32 0, .int .u32 0, .int .u32 0, .int .u32 0, .int .u32 0, .int .u32 0, .int .u32 0, .int .u32 0, .int .u32 0, .int .u32 0, .int .u32 0, .int .u32 0, .int .u32 0, .int .u32 0, .int .u32 0] 162)) w2.heap.size (List.replicate 32 0) := blk_new w2 _
  have hbt := below_alloc (Below.refl _ w2) (.cells #[.int .u32 0, .int .u32 0, .int .u32 0, .int .u32 0, .int .u32 0, .int .u32 0, .int .u32 0, .int .u32 0, .int .u32 0, .int .u32 0, .int .u32 0, .int .u32 0, .int .u32 0, .int .u32 0, .int .u32 0, .int .u32 0, .int .u32 0, .int .u32 0, .int .u32 0, .int .u32 0, .int .u32 0, .int .u32 0, .int .u32 0, .int .u32 0, .int .u32 0, .int .u32 0, .int .u32 0, .int .u32 0, .int .u32 0, .int .u32 0, .int .u32 0, .int .u32 0] 162)
  rw [← hT] at hzr ⊢
  obtain ⟨z1, r1, b1⟩ := E1.out
  have r1 := r1.below E2.out.2.2
  obtain ⟨z2, r2, b2⟩ := E2.out
  have r1 := r1.below hbt
  have r2 := r2.below hbt
  have b12 : Below w.heap.size w w2 := b1.trans (b2.mono b1.size)
  have b13 : Below w.heap.size w (w2.alloc (.cells #[.int .u32 0, .int .u32 0, .int .u32 0, .int .u32 0, .int .u32 0, .int .u32 0, .int .u32 0, .int .u32 0, .int .u32 0, .int .u32 0, .int .u32 0, .int .u32 0, .int .u32 0, .int .u32 0, .int .u32 0, .int .u32 0, .int .u32 0, .int .u32 0, .int .u32 0, .int .u32 0, .int .u32 0, .int .u32 0, .int .u32 0, .int .u32 0, .int .u32 0, .int .u32 0, .int .u32 0, .int .u32 0, .int .u32 0, .int .u32 0, .int .u32 0, .int .u32 0] 162)) := b12.trans (hbt.mono b12.size)
  have hks : KS w (w2.alloc (.cells #[.int .u32 0, .int .u32 0, .int .u32 0, .int .u32 0, .int .u32 0, .int .u32 0, .int .u32 0, .int .u32 0, .int .u32 0, .int .u32 0, .int .u32 0, .int .u32 0, .int .u32 0, .int .u32 0, .int .u32 0, .int .u32 0, .int .u32 0, .int .u32 0, .int .u32 0, .int .u32 0, .int .u32 0, .int .u32 0, .int .u32 0, .int .u32 0, .int .u32 0, .int .u32 0, .int .u32 0, .int .u32 0, .int .u32 0, .int .u32 0, .int .u32 0, .int .u32 0] 162)) D1 D2 T P F O B co xs ys bs b frm 0 (List.replicate 32 0) bs :=
    ⟨r1, r2, hzr, by simp, cell_below HP.out b13, HG.out.kept (Kept.of_below b13 (fun _ => False)) (fun h => h) (fun h => h), HOB.out.kept (Kept.of_below b13 (fun _ => False)) (fun h => h), H0.out, Tn.of_below b13 _⟩
  have hkd : KD w D1 D2 T P O bs := by
    have s1 := b1.size
    have s2 := b2.size
    have := HLT.out
    have l1 : D1 < w2.heap.size := (E1.out.2.1.below E2.out.2.2).lt
    have l2 : D2 < w2.heap.size := E2.out.2.1.lt
    refine ⟨by omega, by omega, by omega, by omega, by omega, fun hp => ?_⟩
    have := HO.out hp
    refine ⟨by omega, by omega, by omega, this.2.1, this.2.2⟩
  have KS0 := Aside0.mk hks
  have HKD := Aside0.mk hkd
  have hko : KO O xs.length frm bs.length 0 0 xs.length bs.length c A ∨ True := .inr trivial
  clear hko hks hkd hzr hbt hT b1 b2 b12 b13 E1 E2 HP HG HX HY HOB H0
  clear r1 z1
  clear r2 z2
  generalize w2.alloc (.cells #[.int .u32 0, .int .u32 0, .int .u32 0, .int .u32 0, .int .u32 0, .int .u32 0, .int .u32 0, .int .u32 0, .int .u32 0, .int .u32 0, .int .u32 0, .int .u32 0, .int .u32 0, .int .u32 0, .int .u32 0, .int .u32 0, .int .u32 0, .int .u32 0, .int .u32 0, .int .u32 0, .int .u32 0, .int .u32 0, .int .u32 0, .int .u32 0, .int .u32 0, .int .u32 0, .int .u32 0, .int .u32 0, .int .u32 0, .int .u32 0, .int .u32 0, .int .u32 0] 162) = w3 at KS0 ⊢
  go_upto_if 33 with (fail)
  go_cut [2, 9, 10, 11] (fun v2 v9 v10 v11 w' => ∃ (d ko n9 c9 c10 m2 c2 : Nat) (A2 A9 A10 : Option Addr) (us bs2 : List Int), v2 = .slice A2 m2 c2 ∧ v9 = .slice A9 n9 c9 ∧ v10 = .slice A10 n9 c10 ∧ v11 = .int .i64 (n9 : Int) ∧ Aside0 (KO O xs.length frm bs.length d ko n9 m2 c2 A2) ∧ Aside0 (KV D1 d n9 c9 A9) ∧ Aside0 (KV D2 d n9 c10 A10) ∧ Aside0 (KS w w' D1 D2 T P F O B co xs ys bs b frm d us bs2))
  case first =>
    by_cases c33 : frm = 0
    · have c33b : ((frm : Int) != 0) = false := by simp [c33]
      have C33 := Aside0.mk c33
      clear c33
      go_wp2
      go_meet
      case rel => exact ⟨0, 0, xs.length, xs.length, ys.length, bs.length, c, A, some ⟨D1, 0, none⟩, some ⟨D2, 0, none⟩, _, bs, rfl, rfl, (by rw [HL.out]), rfl, ⟨⟨by omega, by have := C33.out; omega, by omega, HA.out, HMC.out⟩⟩, ⟨⟨fun _ => rfl, Nat.le_refl _⟩⟩, ⟨⟨fun _ => rfl, by have := HL.out; omega⟩⟩, KS0⟩
    · have c33b : ((frm : Int) != 0) = true := by simp [c33]
      have hbpos : 0 < bs.length := by have := HROOM.out; omega
      have hA' := HA.out hbpos
      subst hA'
      obtain ⟨vals, hv⟩ : ∃ v, v = min xs.length (8 - frm) := ⟨_, rfl⟩
      have hmin : (if 8 - (frm : Int) < (xs.length : Int) then 8 - (frm : Int) else (xs.length : Int)) = (vals : Int) := by split <;> omega
      have v0 : (0 : Int) ≤ (vals : Int) := by omega
      have v8 : (vals : Int) ≤ 8 := by omega
      have vn : (vals : Int) ≤ (xs.length : Int) := by omega
      have hsub : (xs.length : Int) - (vals : Int) = ((xs.length - vals : Nat) : Int) := by omega
      have s3 := head_t T vals 32 (vals : Int) rfl (by omega)
      have s1 := head_q (some ⟨D1, 0, none⟩) xs.length xs.length vals (vals : Int) rfl (by omega)
      obtain ⟨A9, t1, q1⟩ := rest_q (some ⟨D1, 0, none⟩) D1 0 xs.length xs.length vals (vals : Int) rfl (fun _ => rfl) (by omega) (Nat.le_refl _)
      have Q1 := Aside0.mk q1
      clear q1
      have hvy : vals ≤ ys.length := by have := HL.out; omega
      have s2 := head_q (some ⟨D2, 0, none⟩) ys.length ys.length vals (vals : Int) rfl hvy
      obtain ⟨A10, t2, q2⟩ := rest_q (some ⟨D2, 0, none⟩) D2 0 ys.length ys.length vals (vals : Int) rfl (fun _ => rfl) hvy (Nat.le_refl _)
      have Q2 := Aside0.mk q2
      have HVY := Aside0.mk hvy
      clear q2
      have HV := Aside0.mk hv
      have C33 := Aside0.mk c33
      clear hv c33
      have HBP := Aside0.mk hbpos
      go_upto_region 8 with (fail)
      have hcell : w3.cell? ⟨P, 0, none⟩ = some (.func (.func F) #[] #[]) := KS0.out.cp
      have HCM := Aside0.mk (KS.cmpAA HB.out HC.out KS0.out.drew HKD.out (some ⟨D1, 0, none⟩) (some ⟨D2, 0, none⟩) vals xs.length vals ys.length vals 32 (fun _ => rfl) (fun _ => rfl) (by omega) (by have := HL.out; omega) (Nat.le_refl _) (Nat.le_refl _) (by omega))
      go_region_held3 (fun w' => w'.cell? ⟨P, 0, none⟩ = some (.func (.func F) #[] #[])) (go_keep) (first | (go_at_fn F; go_loud (refine (HCM.out).mono ?_; rintro e w4 ⟨rfl, ⟨us, k2, u2⟩⟩; have cp2 : w4.cell? ⟨P, 0, none⟩ = some (.func (.func F) #[] #[]) := k2.cp; have K2 := Aside0.mk k2; have U2 := Aside0.mk u2; clear k2 u2)))
      go_upto_region 9 with (fail)
      go_quiet (fail)
      obtain ⟨us2, k2, u2⟩ : Cmpd w w4 D1 D2 T P F O B co xs ys bs b frm 0 vals bs := ⟨us, K2.out, U2.out⟩
      have HLOOP := Aside0.mk (k2.drewN nq)
      have HU := Aside0.mk u2
      have hvc : (vals : Int) ≤ 32 := by omega
      clear k2 u2 K2 U2 cp2 hcell HCM KS0 s3 s1 t1 s2 t2
      generalize w4.drewN nq = w5 at HLOOP ⊢
      go_wp2
      go_loopg [62] (vals + 1) (fun kq v62 w' => ∃ (i : Nat) (bs2 : List Int), v62 = .int .i64 (i : Int) ∧ Aside0 (i + kq = vals + 1) ∧ Aside0 (i ≤ vals) ∧ Aside0 (KS w w' D1 D2 T P F O B co xs ys bs b frm i us2 bs2))
      case atStart => exact ⟨0, bs, rfl, ⟨by omega⟩, ⟨by omega⟩, HLOOP⟩
      case round =>
        clear HLOOP
        obtain ⟨i, bs2, rfl, HK, HI, HKS⟩ := hrel
        cases gk with
        | zero => exact absurd HK.out (by have := HI.out; omega)
        | succ k1 =>
          by_cases c2 : i < vals
          · have c2b : decide ((i : Int) < (vals : Int)) = true := decide_eq_true (by omega)
            have hct := HKS.out.rt.cell i (by rw [HKS.out.ul]; omega)
            have g0 : (0 : Int) ≤ (i : Int) := by omega
            have g1 : (i : Int) < (vals : Int) := by omega
            have hue := HU.out i c2
            generalize us2.getD i 0 = u at hct hue
            have HBT := Aside0.mk (HKS.out.bit HKD.out 0 bs.length c (frm + i) ((frm : Int) + (i : Int)) (by omega) (u != 0) (by omega) (by have := HV.out; have := HROOM.out; omega) (by omega) (by omega) (by rw [u_ne u _ hue, Nat.zero_add]))
            have C2 := Aside0.mk c2
            clear hue c2
            go_wp2_with (first | (go_at_call 66; refine HBT.out.mono ?_; rintro e w6 ⟨rfl, ⟨bs3, e3⟩⟩; have E3 := Aside0.mk e3; clear e3 HBT))
            go_roundg k1
            case measure => have := HK.out; omega
            case rel => exact ⟨i + 1, bs3, (by first | rfl | (simp; done) | (have := C2.out; unfold wrap64; congr 1; omega)), ⟨by have := HK.out; omega⟩, ⟨by have := C2.out; omega⟩, E3⟩
          · have c2b : decide ((i : Int) < (vals : Int)) = false := decide_eq_false (by omega)
            have hi : i = vals := by have := HI.out; omega
            subst hi
            clear c2
            by_cases c76 : xs.length = i
            · have c76b : (((xs.length - i : Nat) : Int) == 0) = true := by simp [c76]
              have HF := Aside0.mk (HFIN.out bs2 (by rw [c76]; exact HKS.out.td))
              clear c76
              go_wp2
              refine bodyPost_ret (results_none rfl _ _ _) rfl ?_
              exact ⟨rfl, by rw [← HF.out]; exact HKS.out.ob, HKS.out.tn⟩
            · have c76b : (((xs.length - i : Nat) : Int) == 0) = false := by have := HV.out; simp; omega
              obtain ⟨A2, t2, q2⟩ := rest_b (some ⟨O, 0, none⟩) O 0 bs.length c 1 1 rfl (fun _ => rfl) (by have := HBP.out; omega) HMC.out
              have Q22 := Aside0.mk q2
              have C76 := Aside0.mk c76
              clear c76 q2
              go_wp2
              go_meet
              case rel => exact ⟨i, 1, xs.length - i, xs.length - i, ys.length - i, bs.length - 1, c - 1, A2, A9, A10, us2, bs2, rfl, rfl, (by rw [HL.out]), rfl, ⟨⟨by have := HI.out; omega, by have := HV.out; have := C76.out; omega, by have := HBP.out; omega, fun hp => by have := Q22.out hp; simpa using this, by have := HMC.out; omega⟩⟩, ⟨⟨by have := Q1.out; rwa [Nat.zero_add] at this, Nat.le_refl _⟩⟩, ⟨⟨by have := Q2.out; rwa [Nat.zero_add, ← HL.out] at this, by have := HL.out; omega⟩⟩, HKS⟩
  case rest =>
    clear KS0
    obtain ⟨d, ko, n9, c9, c10, m2, c2, A2, A9, A10, us, bs2, rfl, rfl, rfl, rfl, HKO, HV1, HV2, HKS⟩ := hcut
    obtain ⟨nb, hnb⟩ : ∃ nb, nb = n9 / 32 := ⟨_, rfl⟩
    have hq : Int.tdiv (n9 : Int) 32 = (nb : Int) := by rw [Int.tdiv_eq_ediv_of_nonneg (by omega)]; omega
    have hq2 : (n9 : Int) / 32 = (nb : Int) := by omega
    have hn9 : (n9 : Int) ≤ 300 := by have := HKO.out.hd; omega
    have hnb2 : (nb : Int) ≤ 10 := by omega
    have HNB := Aside0.mk hnb
    clear hnb
    generalize wc = wc at HKS ⊢
    go_upto_region 19 with (fail)
    clear hq hq2
    go_wp2
    go_loopg [2, 9, 10, 19] (nb + 1) (fun kq v2 v9 v10 v19 w' => ∃ (j d ko n9' c9 c10 m2 c2 : Nat) (A2 A9 A10 : Option Addr) (us bs2 : List Int), v19 = .int .i64 (j : Int) ∧ v2 = .slice A2 m2 c2 ∧ v9 = .slice A9 n9' c9 ∧ v10 = .slice A10 n9' c10 ∧ Aside0 (j + kq = nb + 1) ∧ Aside0 (j ≤ nb) ∧ Aside0 (n9' + 32 * j = n9) ∧ Aside0 (KO O xs.length frm bs.length d ko n9' m2 c2 A2) ∧ Aside0 (KV D1 d n9' c9 A9) ∧ Aside0 (KV D2 d n9' c10 A10) ∧ Aside0 (KS w w' D1 D2 T P F O B co xs ys bs b frm d us bs2))
    case atStart => exact ⟨0, d, ko, n9, c9, c10, m2, c2, A2, A9, A10, us, bs2, rfl, rfl, rfl, rfl, ⟨by omega⟩, ⟨by omega⟩, ⟨by omega⟩, HKO, HV1, HV2, HKS⟩
    case round =>
      clear HKO HKS HV1 HV2 A2 A9 A10 us bs2 d ko m2 c2 c9 c10
      obtain ⟨j, d, ko, n9', c9, c10, m2, c2, A2, A9, A10, us, bs2, rfl, rfl, rfl, rfl, HK, HJ, HN, HKO, HV1, HV2, HKS⟩ := hrel
      cases gk with
      | zero => exact absurd HK.out (by have := HJ.out; omega)
      | succ k1 =>
        by_cases cj : j < nb
        · have cjb : decide ((j : Int) < (nb : Int)) = true := decide_eq_true (by omega)
          have h32 : 32 ≤ n9' := by have := HN.out; have := HNB.out; omega
          have hcell : wr.cell? ⟨P, 0, none⟩ = some (.func (.func F) #[] #[]) := HKS.out.cp
          have HCM := Aside0.mk (KS.cmpAA HB.out HC.out HKS.out.drew HKD.out A9 A10 32 c9 32 c10 32 32 (fun _ => HV1.out.a (by omega)) (fun _ => HV2.out.a (by omega)) (by have := HKO.out.hd; omega) (by have := HKO.out.hd; have := HL.out; omega) (Nat.le_refl _) (Nat.le_refl _) (by omega))
          have s1 := head_q A9 n9' c9 32 32 rfl (by have := HV1.out.l; omega)
          obtain ⟨A9', t1, q1⟩ := rest_q A9 D1 d n9' c9 32 32 rfl HV1.out.a h32 HV1.out.l
          have Q1 := Aside0.mk q1
          clear q1
          have s2 := head_q A10 n9' c10 32 32 rfl (by have := HV2.out.l; omega)
          obtain ⟨A10', t2, q2⟩ := rest_q A10 D2 d n9' c10 32 32 rfl HV2.out.a h32 HV2.out.l
          have Q2 := Aside0.mk q2
          clear q2
          have CJ := Aside0.mk (And.intro cj h32)
          have hmm : 4 ≤ m2 := by have := HKO.out.hm; have := HKO.out.hk; have := HKO.out.hd; have := HROOM.out; omega
          obtain ⟨A2', t3, q3⟩ := rest_b A2 O ko m2 c2 4 4 rfl HKO.out.a2 hmm HKO.out.l2
          have Q3 := Aside0.mk q3
          have HMM := Aside0.mk hmm
          have hjw : wrap64 ((j : Int) + 1) = ((j + 1 : Nat) : Int) := by unfold wrap64; omega
          have HJW := Aside0.mk hjw
          clear h32 q3 hmm hjw
          go_upto_region 22 with (fail)
          go_region_held3 (fun w' => w'.cell? ⟨P, 0, none⟩ = some (.func (.func F) #[] #[])) (go_keep) (first | (go_at_fn F; go_loud (refine (HCM.out).mono ?_; rintro e w4 ⟨rfl, ⟨us5, k2, u2⟩⟩; have cp2 : w4.cell? ⟨P, 0, none⟩ = some (.func (.func F) #[] #[]) := k2.cp; have K2 := Aside0.mk k2; have U2 := Aside0.mk u2; clear k2 u2)))
          go_upto_region 23 with (fail)
          go_quiet (fail)
          have HKS5 := Aside0.mk (K2.out.drewN nq)
          have hrow := HKS5.out.rt
          have hsz : (Tryz.prog.info? 162).map (·.size) = some (us5.map (Value.int .u32)).toArray.size := by rw [List.size_toArray, List.length_map, HKS5.out.ul]; kernel_rfl
          have HROW := Aside0.mk (And.intro hrow hsz)
          clear hrow hsz cp2 hcell
          generalize w4.drewN nq = w5 at HKS5 HROW ⊢
          have HPK := Aside0.mk (HKS5.out.pack HKD.out A2 ko m2 c2 HKO.out.a2 HKO.out.hm HMM.out HKO.out.l2 HKO.out.hk (by have := (HO.out (by have := HKO.out.hm; have := HMM.out; omega)).1; have := HKS5.out.size; omega) U2.out)
          go_wp2_with (first | (refine wpList_load_row rfl 162 (.tmp 12) rfl T rfl 162 (us5.map (Value.int .u32)).toArray (0, 0) _ HROW.out.1 Tryz.underlying162 rfl HROW.out.2 ?_) | (go_at_call 67; refine HPK.out.mono ?_; rintro e w6 ⟨rfl, e3⟩; have E3 := Aside0.mk e3; clear e3 HPK))
          go_roundg k1
          case measure => have := HK.out; omega
          case rel => exact ⟨j + 1, d + 32, ko + 4, n9' - 32, c9 - 32, c10 - 32, m2 - 4, c2 - 4, A2', A9', A10', us5, _, (by first | rw [HJW.out] | rfl), rfl, rfl, rfl, ⟨by have := HK.out; omega⟩, ⟨by have := CJ.out; omega⟩, ⟨by have := HN.out; have := CJ.out; omega⟩, ⟨⟨by have := HKO.out.hd; have := CJ.out; omega, by have := HKO.out.hk; omega, by have := HKO.out.hm; have := HMM.out; omega, Q3.out, by have := HKO.out.l2; omega⟩⟩, ⟨⟨Q1.out, by have := HV1.out.l; omega⟩⟩, ⟨⟨Q2.out, by have := HV2.out.l; omega⟩⟩, E3⟩
        · have cjb : decide ((j : Int) < (nb : Int)) = false := decide_eq_false (by omega)
          have hj : j = nb := by have := HJ.out; omega
          subst hj
          have hr : (n9 : Int) - 32 * (j : Int) = (n9' : Int) := by have := HN.out; omega
          have hr32 : (n9' : Int) ≤ 32 := by have := HNB.out; omega
          have hr0 : (0 : Int) ≤ (n9' : Int) := by omega
          clear cj
          have hcell : wr.cell? ⟨P, 0, none⟩ = some (.func (.func F) #[] #[]) := HKS.out.cp
          have HCM := Aside0.mk (KS.cmpAA HB.out HC.out HKS.out.drew HKD.out A9 A10 n9' c9 n9' c10 n9' 32 HV1.out.a HV2.out.a (by have := HKO.out.hd; omega) (by have := HKO.out.hd; have := HL.out; omega) (Nat.le_refl _) (Nat.le_refl _) (by omega))
          go_upto_region 27 with (fail)
          go_region_held3 (fun w' => w'.cell? ⟨P, 0, none⟩ = some (.func (.func F) #[] #[])) (go_keep) (first | (go_at_fn F; go_loud (refine (HCM.out).mono ?_; rintro e w4 ⟨rfl, ⟨us7, k2, u2⟩⟩; have cp2 : w4.cell? ⟨P, 0, none⟩ = some (.func (.func F) #[] #[]) := k2.cp; have K2 := Aside0.mk k2; have U2 := Aside0.mk u2; clear k2 u2)))
          have HLOOP := K2
          have HU := U2
          clear K2 U2 cp2 hcell HCM hr
          go_wp2
          go_loopg [115] (n9' + 1) (fun kq v115 w' => ∃ (i : Nat) (bs2 : List Int), v115 = .int .i64 (i : Int) ∧ Aside0 (i + kq = n9' + 1) ∧ Aside0 (i ≤ n9') ∧ Aside0 (KS w w' D1 D2 T P F O B co xs ys bs b frm (d + i) us7 bs2))
          case atStart => exact ⟨0, bs2, rfl, ⟨by omega⟩, ⟨by omega⟩, HLOOP⟩
          case round =>
            clear HLOOP HK
            obtain ⟨i, bs3, rfl, HK, HI, HKS⟩ := hrel
            cases gk with
            | zero => exact absurd HK.out (by have := HI.out; omega)
            | succ k1 =>
              by_cases cI : i < n9'
              · have c2b : decide ((i : Int) < (n9' : Int)) = true := decide_eq_true (by omega)
                have hm2 : 0 < m2 := by have := HKO.out.hm; have := HKO.out.hk; have := HKO.out.hd; have := HROOM.out; omega
                have hA2 := HKO.out.a2 hm2
                have hct := HKS.out.rt.cell i (by rw [HKS.out.ul]; omega)
                have g0 : (0 : Int) ≤ (i : Int) := by omega
                have g1 : (i : Int) < (n9' : Int) := by omega
                have hue := HU.out i cI
                generalize us7.getD i 0 = u at hct hue
                have HBT := Aside0.mk (HKS.out.bit HKD.out ko m2 c2 i (i : Int) rfl (u != 0) HKO.out.hm (by have := HKO.out.hm; have := HKO.out.hk; have := HKO.out.hd; have := HROOM.out; omega) (by omega) (by have := HKO.out.hk; omega) (by rw [u_ne u _ hue]))
                have C2 := Aside0.mk cI
                have HWI := Aside0.mk (show wrap64 ((i : Int) + 1) = ((i + 1 : Nat) : Int) by unfold wrap64; omega)
                subst hA2
                clear hue cI hm2
                go_wp2_with (first | (go_at_call 66; refine HBT.out.mono ?_; rintro e w6 ⟨rfl, ⟨bs4, e3⟩⟩; have E3 := Aside0.mk e3; clear e3 HBT))
                go_roundg k1
                case measure => have := HK.out; omega
                case rel => exact ⟨i + 1, bs4, (by first | rfl | (rw [HWI.out]) | (simp; done)), ⟨by have := HK.out; omega⟩, ⟨by have := C2.out; omega⟩, E3⟩
              · have c2b : decide ((i : Int) < (n9' : Int)) = false := decide_eq_false (by omega)
                have hi : i = n9' := by have := HI.out; omega
                subst hi
                have hde : d + i = xs.length := HKO.out.hd
                have HF := Aside0.mk (HFIN.out bs3 (by rw [← hde]; exact HKS.out.td))
                clear cI hde
                go_wp2
                go_end0
                exact ⟨rfl, by rw [← HF.out]; exact HKS.out.ob, HKS.out.tn⟩
end Go.Proofs.YtgccaabpckfhlaaGreatDoor.Q
