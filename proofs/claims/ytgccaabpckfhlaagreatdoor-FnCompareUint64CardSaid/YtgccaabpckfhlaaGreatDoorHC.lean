/- impl.CompareUint64. -/
import Derived.Test.YtgccaabpckfhlaaGreatDoorZn
namespace Go.Proofs.YtgccaabpckfhlaaGreatDoor.Q
open Go.RowKit Go.Proofs.YtgccaabpckfhlaaGreatDoorW.PrintWords Go.Proofs.YtgccaabpckfhlaaGreatDoorW.PrintLast Go.Proofs.YtgccaabpckfhlaaGreatDoorW.PrintMore
set_option linter.unusedVariables false
set_option linter.unusedSimpArgs false
set_option maxHeartbeats 4000000 in
set_option maxRecDepth 100000 in
theorem cmp_walk (A2 : Option Addr) (c2 : Nat) (xs : List Int) (A3 : Option Addr) (c3 : Nat) (ys : List Int) (A4 : Option Addr) (c4 : Nat) (bs : List Int) (op how frm : Nat) (w : World) (hr2 : Kd.C (Kd.int .u64) w A2 xs.length xs) (hc2 : xs.length ≤ c2) (hr3 : Kd.C (Kd.int .u64) w A3 ys.length ys) (hc3 : ys.length ≤ c3) (hr4 : Kd.C (Kd.int .u8) w A4 bs.length bs) (hc4 : bs.length ≤ c4) (hg : Glob w) (hop : op < 4) (hh : how ≤ 2) (hl : Fits how xs ys) (mx : xs.length ≤ 300) (my : ys.length ≤ 300) (bx : ∀ x ∈ xs, 0 ≤ x ∧ x < 18446744073709551616) (bY : ∀ x ∈ ys, 0 ≤ x ∧ x < 18446744073709551616) (ok : BytesOk bs) (hb : bs.length ≤ 100) (hf : frm ≤ 7) (hr : frm + cntN how xs ys ≤ 8 * bs.length) :
    Calls Tryz.prog 4 #[.int .i64 (op : Int), .int .i64 (how : Int), .slice A2 xs.length c2, .slice A3 ys.length c3, .slice A4 bs.length c4, .int .i64 (frm : Int)] w fun e w' => ∃ v0_ : Value, e = .returned (.tuple #[v0_, .bool true]) ∧ Kd.R (Kd.int .u8) 5 w' w.heap.size (fun _ => True) v0_ (tells (ansB op how xs ys) frm (cntN how xs ys) bs) ∧ Below w.heap.size w w' := by
  have h2 : Below w.heap.size w ((w.alloc (.cells #[.slice none 0 0] 23)).alloc (.cells #[.bool false] 4)) := below_alloc (below_alloc (Below.refl _ _) _) _
  have k0 : ((w.alloc (.cells #[.slice none 0 0] 23)).alloc (.cells #[.bool false] 4)).heap[w.heap.size]? = some (.cells #[.slice none 0 0] 23 (0, 0)) := blk_alloc (blk_new w _) _
  have k1 : ((w.alloc (.cells #[.slice none 0 0] 23)).alloc (.cells #[.bool false] 4)).heap[w.heap.size + 1]? = some (.cells #[.bool false] 4 (0, 0)) := by
    have h := blk_new (w.alloc (.cells #[.slice none 0 0] 23)) (.cells #[.bool false] 4)
    simpa using h
  have ks : ((w.alloc (.cells #[.slice none 0 0] 23)).alloc (.cells #[.bool false] 4)).heap.size = w.heap.size + 2 := by simp
  have HR2 := Aside0.mk hr2
  have HR3 := Aside0.mk hr3
  have HR4 := Aside0.mk hr4
  have HG := Aside0.mk hg
  have HL := Aside0.mk hl
  have HS := Aside0.mk (And.intro bx (And.intro bY (And.intro ok (And.intro hb (And.intro hf (And.intro hop (And.intro hh hr)))))))
  have HM := Aside0.mk (And.intro mx my)
  have HC := Aside0.mk (And.intro hc2 (And.intro hc3 hc4))
  have H2 := Aside0.mk h2
  have K0 := Aside0.mk k0
  have K1 := Aside0.mk k1
  have KS := Aside0.mk ks
  have hx300 : (xs.length : Int) ≤ 300 := by omega
  have hy300 : (ys.length : Int) ≤ 300 := by omega
  have m1 := make8 xs.length mx
  have m2 := make8 ys.length my
  clear hr2 hr3 hr4 hg hl mx my bx bY ok hb hf hr hop hh h2 k0 k1 ks hc2 hc3 hc4
  go_enter_defers Tryz.func4, Tryz.ntmps4
  go_upto_region 2 with (fail)
  generalize (w.alloc (.cells #[.slice none 0 0] 23)).alloc (.cells #[.bool false] 4) = W2 at H2 K0 K1 KS ⊢
  have HCP := Aside0.mk (impl_copied.calls A4 c4 bs bs W2 (Kd.C_below HR4.out H2.out) HC.out.2.2 (by unfold impl_copied.f; simp only [Option.bind_some, List.length_nil, List.nil_append]; rw [if_pos (by have := HS.out.2.2.2.1; omega)]))
  go_upto_region 3 with (first | (go_at_call 11; refine HCP.out.mono ?_; rintro e w3 ⟨v, rfl, r3, b3⟩; have R3 := Aside0.mk r3; have B3 := Aside0.mk b3; have hz3 : w3.frozen? ⟨w.heap.size, 0, none⟩ = false := blk_frozen (blk_below K0.out b3) 0; have hq3 : w3.cell? ⟨w.heap.size, 0, none⟩ = some (.slice none 0 0) := (blk_cell (blk_below K0.out b3) 0).trans rfl; obtain ⟨A, c, O, co, rfl, o1, o2, o3, o4⟩ := ob_of_R r3; have OO := Aside0.mk (And.intro o1 (And.intro o2 (And.intro o3 o4))); clear r3 b3 o1 o2 o3 o4 HCP))
  obtain ⟨o1, o2, o3, o4⟩ := OO.out
  have hk3 := B3.out.size
  have hs2 := KS.out
  have e0 := blk_set (blk_below K0.out B3.out) 0 (.slice A bs.length c)
  have e1 := blk_far (blk_below K1.out B3.out) (p := ⟨w.heap.size, 0, none⟩) (show w.heap.size + 1 ≠ w.heap.size by omega) (.slice A bs.length c)
  have hR := Kd.R_far (p := ⟨w.heap.size, 0, none⟩) (Kd.R_bound R3.out) (fun k hk => by have := hk.2.1; show k ≠ w.heap.size; omega) (.slice A bs.length c)
  have hOb : Ob (w3.setCell ⟨w.heap.size, 0, none⟩ (.slice A bs.length c)) W2.heap.size O co bs := fun hp => Kd.R_mono (Kd.R_far (p := ⟨w.heap.size, 0, none⟩) (Kd.R_bound (o3 hp)) (fun k hk => by have := hk.2.1; show k ≠ w.heap.size; omega) (.slice A bs.length c)) (fun _ h => h.1)
  have hB4 : Below w.heap.size w (w3.setCell ⟨w.heap.size, 0, none⟩ (.slice A bs.length c)) := Below.setCell (p := ⟨w.heap.size, 0, none⟩) (H2.out.trans (B3.out.mono (by omega))) (Nat.le_refl _) _
  have hsz : W2.heap.size ≤ (w3.setCell ⟨w.heap.size, 0, none⟩ (.slice A bs.length c)).heap.size ∧ (0 < bs.length → O < (w3.setCell ⟨w.heap.size, 0, none⟩ (.slice A bs.length c)).heap.size) := by
    rw [show (w3.setCell ⟨w.heap.size, 0, none⟩ (.slice A bs.length c)).heap.size = w3.heap.size by simp]
    exact ⟨hk3, fun hp => (o4 hp).2.1⟩
  have E0 := Aside0.mk e0
  have E1 := Aside0.mk e1
  have HRR := Aside0.mk hR
  have HOB := Aside0.mk hOb
  have HB4 := Aside0.mk hB4
  have HSZ := Aside0.mk hsz
  clear e0 e1 hR hOb hB4 hsz o1 o2 o3 o4 hk3 hs2 R3 B3
  generalize w3.setCell ⟨w.heap.size, 0, none⟩ (.slice A bs.length c) = W4 at E0 E1 HRR HOB HB4 HSZ ⊢
  have HSO := Aside0.mk (fun W => SizeOf_calls W)
  have q1 : IntKind.i64.wrap (8 * (xs.length : Int)) = 8 * (xs.length : Int) := by rw [IntKind.wrap_i64]; omega
  have q2 : IntKind.i64.wrap (8 * (ys.length : Int)) = 8 * (ys.length : Int) := by rw [IntKind.wrap_i64]; omega
  go_cut [14, 15] from 22 to 31 (fun v14 v15 wc => ∃ (X Y : Nat), v14 = .slice (some ⟨X, 0, none⟩) (8 * xs.length) (8 * xs.length) ∧ v15 = .slice (some ⟨Y, 0, none⟩) (8 * ys.length) (8 * ys.length) ∧ Aside0 (Two W4 wc X Y (fillL le8 8 xs 0) (fillL le8 8 ys 0)))
  case first =>
    go_region_held3 (fun w' => True) (trivial) (first | (go_at_call 12; (fail_if_success (have hh_ := HBA)); refine (HSO.out _).mono ?_; rintro e wa ⟨rfl, hbn⟩; have HBA := Aside0.mk hbn; clear hbn) | (go_at_call 12; refine (HSO.out _).mono ?_; rintro e wb ⟨rfl, hbn⟩; have HBB := Aside0.mk hbn; clear hbn))
    all_goals go_wp2
    all_goals go_meet
    all_goals (case rel => rw [fill0, fill0]; first | exact ⟨_, _, rfl, rfl, ⟨two_a HBA.out HBB.out⟩⟩ | exact ⟨_, _, rfl, rfl, ⟨two_b HBA.out HBB.out⟩⟩ | exact ⟨_, _, rfl, rfl, ⟨two_c HBA.out HBB.out⟩⟩)
  case rest =>
    obtain ⟨X, Y, rfl, rfl, HT⟩ := hcut
    clear m1 m2 q1 q2 HSO
    go_wp2
    go_loopg [34] (xs.length + 1) (fun kq v34 w' => ∃ (i : Nat), v34 = .int .i64 (i : Int) ∧ Aside0 (i + kq = xs.length + 1) ∧ Aside0 (i ≤ xs.length) ∧ Aside0 (Two W4 w' X Y (fillL le8 8 xs i) (fillL le8 8 ys 0)))
    case atStart => exact ⟨0, rfl, ⟨by omega⟩, ⟨by omega⟩, HT⟩
    case round =>
      clear HT
      obtain ⟨i, rfl, HK, HI, HT⟩ := hrel
      cases gk with
      | zero => exact absurd HK.out (by have := HI.out; omega)
      | succ k1 =>
        by_cases cI : i < xs.length
        · have cIb : decide ((i : Int) < (xs.length : Int)) = true := decide_eq_true (by omega)
          have cIn : decide (i < xs.length) = true := decide_eq_true cI
          obtain ⟨ad, rfl, hx0⟩ := Kd.at_int (Kd.C_below HR2.out (HB4.out.trans (HT.out.b.mono (by have := HSZ.out.1; have := KS.out; omega)))) (i : Int) (by omega) (by omega)
          rw [Int.toNat_natCast] at hx0
          have hrd : rd xs (i : Int) = xs.getD i 0 := rfl
          rw [hrd] at hx0
          have hmem : xs.getD i 0 ∈ xs := by rw [List.getD_eq_getElem?_getD, List.getElem?_eq_getElem cI]; exact List.getElem_mem _
          have hbx := HS.out.1 _ hmem
          have HPT := Aside0.mk (putAt_calls X (8 * xs.length) i _ (xs.getD i 0) wr HT.out.rx (fillL_len le8 8 le8_len xs i (by omega)) (by omega) (by have := HM.out.1; omega) hbx.1 hbx.2)
          have HST := Aside0.mk (fillL_step le8 8 le8_len xs i cI)
          have g0 : (0 : Int) ≤ (i : Int) := by omega
          have CI := Aside0.mk cI
          have HWI := Aside0.mk (show wrap64 ((i : Int) + 1) = ((i + 1 : Nat) : Int) by have := HM.out.1; unfold wrap64; omega)
          clear hrd hmem hbx
          generalize xs.getD i 0 = xv at hx0 HPT HST
          go_wp2_with (first | (go_at_call 13; refine HPT.out.mono ?_; rintro e w5 ⟨rfl, e1, e2, e3⟩; have E := Aside0.mk (And.intro e1 (And.intro e2 e3)); clear e1 e2 e3 HPT))
          go_roundg k1
          case measure => have := HK.out; omega
          case rel => exact ⟨i + 1, (by first | rw [HWI.out] | rfl), ⟨by have := HK.out; omega⟩, ⟨by have := CI.out; omega⟩, ⟨⟨HT.out.ne, HT.out.x, HT.out.y, by rw [← HST.out]; exact E.out.1, HT.out.ry.kept E.out.2.1 (fun h => HT.out.ne h.symm), HT.out.b.trans (E.out.2.2.mono HT.out.x)⟩⟩⟩
        · have cIb : decide ((i : Int) < (xs.length : Int)) = false := decide_eq_false (by omega)
          have cIn : decide (i < xs.length) = false := decide_eq_false cI
          have hi : i = xs.length := by have := HI.out; omega
          subst hi
          clear cI HK HI
          have HT2 := Aside0.mk HT.out
          clear HT
          go_wp2
          go_loopg [46] (ys.length + 1) (fun kq v46 w' => ∃ (i : Nat), v46 = .int .i64 (i : Int) ∧ Aside0 (i + kq = ys.length + 1) ∧ Aside0 (i ≤ ys.length) ∧ Aside0 (Two W4 w' X Y (fillL le8 8 xs xs.length) (fillL le8 8 ys i)))
          case atStart => exact ⟨0, rfl, ⟨by omega⟩, ⟨by omega⟩, HT2⟩
          case round =>
            clear HT2
            obtain ⟨i, rfl, HK, HI, HT⟩ := hrel
            cases gk with
            | zero => exact absurd HK.out (by have := HI.out; omega)
            | succ k1 =>
              by_cases cI : i < ys.length
              · have cIb : decide ((i : Int) < (ys.length : Int)) = true := decide_eq_true (by omega)
                have cIn : decide (i < ys.length) = true := decide_eq_true cI
                obtain ⟨ad, rfl, hx0⟩ := Kd.at_int (Kd.C_below HR3.out (HB4.out.trans (HT.out.b.mono (by have := HSZ.out.1; have := KS.out; omega)))) (i : Int) (by omega) (by omega)
                rw [Int.toNat_natCast] at hx0
                have hrd : rd ys (i : Int) = ys.getD i 0 := rfl
                rw [hrd] at hx0
                have hmem : ys.getD i 0 ∈ ys := by rw [List.getD_eq_getElem?_getD, List.getElem?_eq_getElem cI]; exact List.getElem_mem _
                have hbx := HS.out.2.1 _ hmem
                have HPT := Aside0.mk (putAt_calls Y (8 * ys.length) i _ (ys.getD i 0) wr HT.out.ry (fillL_len le8 8 le8_len ys i (by omega)) (by omega) (by have := HM.out.2; omega) hbx.1 hbx.2)
                have HST := Aside0.mk (fillL_step le8 8 le8_len ys i cI)
                have g0 : (0 : Int) ≤ (i : Int) := by omega
                have CI := Aside0.mk cI
                have HWI := Aside0.mk (show wrap64 ((i : Int) + 1) = ((i + 1 : Nat) : Int) by have := HM.out.2; unfold wrap64; omega)
                clear hrd hmem hbx
                generalize ys.getD i 0 = xv at hx0 HPT HST
                go_wp2_with (first | (go_at_call 13; refine HPT.out.mono ?_; rintro e w5 ⟨rfl, e1, e2, e3⟩; have E := Aside0.mk (And.intro e1 (And.intro e2 e3)); clear e1 e2 e3 HPT))
                go_roundg k1
                case measure => have := HK.out; omega
                case rel => exact ⟨i + 1, (by first | rw [HWI.out] | rfl), ⟨by have := HK.out; omega⟩, ⟨by have := CI.out; omega⟩, ⟨⟨HT.out.ne, HT.out.x, HT.out.y, HT.out.rx.kept E.out.2.1 (fun h => HT.out.ne h), by rw [← HST.out]; exact E.out.1, HT.out.b.trans (E.out.2.2.mono HT.out.y)⟩⟩⟩
              · have cIb : decide ((i : Int) < (ys.length : Int)) = false := decide_eq_false (by omega)
                have cIn : decide (i < ys.length) = false := decide_eq_false cI
                have hi : i = ys.length := by have := HI.out; omega
                subst hi
                clear cI HK HI
                obtain ⟨htn, htx, hty, htrx, htry, htb⟩ := HT.out
                rw [fill1] at htrx htry
                have hwr : W4.heap.size ≤ wr.heap.size := htb.size
                have hw4 : w.heap.size < W4.heap.size := by have := HSZ.out.1; have := KS.out; omega
                have hbw : Below w.heap.size w wr := HB4.out.trans (htb.mono (by omega))
                have hOb : Ob wr W2.heap.size O co bs := HOB.out.kept (Kept.of_below htb (fun _ => False)) (fun h => h)
                have hcel : wr.cell? ⟨w.heap.size, 0, none⟩ = some (.slice A bs.length c) := (blk_cell (blk_below E0.out htb) 0).trans rfl
                have hins : Ins wr X Y O frm c W2.heap.size co A xs ys bs := ⟨htrx, htry, HM.out.1, HM.out.2, HS.out.1, HS.out.2.1, HG.out.below hbw, hOb, OO.out.2.1, OO.out.1, HS.out.2.2.1, HS.out.2.2.2.2.1, HS.out.2.2.2.1, fun hp => by
                  have h1 := HSZ.out.2 hp
                  have h2 := (OO.out.2.2.2 hp).1
                  have h3 := HG.out.block
                  have h4 := KS.out
                  omega⟩
                have HIN := Aside0.mk hins
                have HBW := Aside0.mk hbw
                have HCEL := Aside0.mk hcel
                have HTB := Aside0.mk htb
                have HWR := Aside0.mk (And.intro hwr hw4)
                have HOP := Aside0.mk (fun W => operator_calls op HS.out.2.2.2.2.2.1 W)
                clear hins hOb htn htx hty htrx htry hwr hw4 hbw htb HT
                go_upto_region 14 with (fail)
                go_region_held3 (fun w' => w'.cell? ⟨w.heap.size, 0, none⟩ = some (.slice A bs.length c)) (go_keep) (first | (go_at_call 15; go_loud (refine (HOP.out _).mono ?_; rintro e w5 ⟨rfl, b5⟩; have c5 := cell_below (show wr.drew.cell? _ = _ from HCEL.out) b5; have B5 := Aside0.mk (show Below wr.heap.size wr w5 from (below_drew (Below.refl _ wr)).trans b5); clear b5)) | (go_at_call 14; go_loud (refine (numbers_calls op how X Y O frm c W2.heap.size co A xs ys bs w5 HS.out.2.2.2.2.2.1 HS.out.2.2.2.2.2.2.1 (HIN.out.below B5.out) HL.out HS.out.2.2.2.2.2.2.2).mono ?_; rintro e w6 ⟨rfl, f1, f2⟩; have c6 : w6.cell? ⟨w.heap.size, 0, none⟩ = some (.slice A bs.length c) := cell_kept c5 f2.kept (fun hs => by have h1 := (OO.out.2.2.2 hs.2).1; have h2 := hs.1; have h3 := KS.out; simp only at h2; omega); have F := Aside0.mk (And.intro f1 f2); clear f1 f2)))
                have hns : ∀ k, k ≤ w.heap.size + 1 → ¬ SO O bs k := fun k hk hs => by
                  have h1 := (OO.out.2.2.2 hs.2).1
                  have h2 := hs.1
                  have h3 := KS.out
                  omega
                have y0 := blk_kept (blk_below (blk_below E0.out HTB.out) B5.out) F.out.2.kept (hns _ (by omega))
                have y1 := blk_kept (blk_below (blk_below E1.out HTB.out) B5.out) F.out.2.kept (hns _ (by omega))
                have z0 := blk_frozen y0 0
                have z1 := blk_frozen y1 0
                have c7 : w6.cell? ⟨w.heap.size + 1, 0, none⟩ = some (.bool false) := (blk_cell y1 0).trans rfl
                have Y := Aside0.mk (And.intro y0 y1)
                have hne : w.heap.size ≠ w.heap.size + 1 := by omega
                clear y0 y1 hns
                go_wp2
                obtain ⟨y0, y1⟩ := Y.out
                have k2 := KS.out
                have k3 := HSZ.out.1
                have k4 := HWR.out
                have k5 := B5.out.size
                have k6 := F.out.2.kept.1
                have hkp : Kept W4 w6 (SO O bs) := ((Kept.of_below HTB.out (SO O bs)).below B5.out).then_ F.out.2.kept (fun k hk => .inl hk)
                have hR6 := R_back HRR.out F.out.1 (tells_len _ _ _ _) hkp (fun hp => (OO.out.2.2.2 hp).2.2)
                have hR7 := Kd.R_far (p := ⟨w.heap.size, 0, none⟩) (Kd.R_bound hR6) (fun k hk => by have := hk.2.1; show k ≠ w.heap.size; omega) (.slice A bs.length c)
                have hR8 := Kd.R_far (p := ⟨w.heap.size + 1, 0, none⟩) (Kd.R_bound hR7) (fun k hk => by have := hk.2.1; show k ≠ w.heap.size + 1; omega) (.bool true)
                have hR9 := Kd.R_mono (Kd.R_lower hR8 (show w.heap.size ≤ W2.heap.size by omega)) (fun _ _ => trivial : ∀ k, _ → True)
                have hB6 : Below w.heap.size w w6 := (HBW.out.trans (B5.out.mono (by omega))).trans (F.out.2.below (by omega) (fun k hk => by have h1 := (OO.out.2.2.2 hk.2).1; have h2 := hk.1; omega))
                have hB8 := Below.setCell (p := ⟨w.heap.size + 1, 0, none⟩) (Below.setCell (p := ⟨w.heap.size, 0, none⟩) hB6 (Nat.le_refl _) (.slice A bs.length c)) (show w.heap.size ≤ w.heap.size + 1 by omega) (.bool true)
                have e0 := blk_far (blk_set y0 0 (.slice A bs.length c)) (p := ⟨w.heap.size + 1, 0, none⟩) (show w.heap.size ≠ w.heap.size + 1 by omega) (.bool true)
                have e1 := blk_set (blk_far y1 (p := ⟨w.heap.size, 0, none⟩) (show w.heap.size + 1 ≠ w.heap.size by omega) (.slice A bs.length c)) 0 (.bool true)
                clear hR6 hR7 hR8 hB6 hkp y0 y1 z0 z1 c5 c6 c7 Y
                generalize (w6.setCell ⟨w.heap.size, 0, none⟩ (.slice A bs.length c)).setCell ⟨w.heap.size + 1, 0, none⟩ (.bool true) = w7 at e0 e1 hR9 hB8 ⊢
                have c0 : w7.cell? ⟨w.heap.size, 0, none⟩ = some (.slice A bs.length c) := (blk_cell e0 0).trans rfl
                have c1 : w7.cell? ⟨w.heap.size + 1, 0, none⟩ = some (.bool true) := (blk_cell e1 0).trans rfl
                refine leaves_cons (f := 10) (args := #[.pointer (some ⟨w.heap.size, 0, none⟩), .pointer (some ⟨w.heap.size + 1, 0, none⟩)]) (by simp) (by simp [go_sem]) ?_
                refine (noBytes_idle _ _ _).mono ?_
                rintro e u' w'' ⟨rfl, rfl, rfl⟩
                refine ⟨.tuple #[.slice A bs.length c, .bool true], ?_, _, rfl, hR9, hB8⟩
                simp [results, Tryz.results4, go_sem, c0, c1]
theorem impl_CompareUint64.calls (a0 : Int) (a1 : Int) (A2 : Option Addr) (c2 : Nat) (l2 : List Int) (A3 : Option Addr) (c3 : Nat) (l3 : List Int) (A4 : Option Addr) (c4 : Nat) (l4 : List Int) (a5 : Int) (r1 : List Int) (r2 : Bool) (w : World) (hr2 : Kd.C (Kd.int .u64) w A2 l2.length l2) (hc2 : l2.length ≤ c2) (hr3 : Kd.C (Kd.int .u64) w A3 l3.length l3) (hc3 : l3.length ≤ c3) (hr4 : Kd.C (Kd.int .u8) w A4 l4.length l4) (hc4 : l4.length ≤ c4) (h : impl_CompareUint64.f a0 a1 l2 l3 l4 a5 = some (r1, r2)) (hg : Glob w) :
    Calls Tryz.prog 4 #[.int .i64 a0, .int .i64 a1, .slice A2 l2.length c2, .slice A3 l3.length c3, .slice A4 l4.length c4, .int .i64 a5] w fun e w' => ∃ v0_ : Value, e = .returned (.tuple #[v0_, .bool r2]) ∧ Kd.R (Kd.int .u8) 5 w' w.heap.size (fun _ => True) v0_ r1 ∧ Below w.heap.size w w' := by
  unfold impl_CompareUint64.f at h
  by_cases hf : FairC a0 a1 l2 l3 l4 a5
  · rw [if_pos hf] at h
    simp only [Option.some.injEq, Prod.mk.injEq] at h
    obtain ⟨rfl, rfl⟩ := h
    obtain ⟨⟨f1, f2⟩, ⟨f3, f4⟩, f5, f6, f7, f8, f9, f10, f11, ⟨f12, f13⟩, f14⟩ := hf
    obtain ⟨op, rfl⟩ : ∃ n : Nat, a0 = (n : Int) := ⟨a0.toNat, by omega⟩
    obtain ⟨how, rfl⟩ : ∃ n : Nat, a1 = (n : Int) := ⟨a1.toNat, by omega⟩
    obtain ⟨frm, rfl⟩ : ∃ n : Nat, a5 = (n : Int) := ⟨a5.toNat, by omega⟩
    simp only [Int.toNat_natCast] at f5 f14 ⊢
    exact cmp_walk A2 c2 l2 A3 c3 l3 A4 c4 l4 op how frm w hr2 hc2 hr3 hc3 hr4 hc4 hg (by omega) (by omega) f5 f6 f7 f8 f9 f10 f11 (by omega) f14
  · rw [if_neg hf] at h
    cases h
end Go.Proofs.YtgccaabpckfhlaaGreatDoor.Q
