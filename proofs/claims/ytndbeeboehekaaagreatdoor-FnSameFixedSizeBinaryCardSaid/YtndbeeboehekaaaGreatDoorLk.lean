/- laws.likewise, for the law's type; spec.Measure's All and Alike. -/
import Derived.Test.YtndbeeboehekaaaGreatDoorQSFe
import Derived.Test.YtndbeeboehekaaaGreatDoorMC
namespace Go.Proofs.YtndbeeboehekaaaGreatDoor.Q
open Go.RowKit Go.Proofs.YtndbeeboehekaaaGreatDoorW.PrintWords Go.Proofs.YtndbeeboehekaaaGreatDoorW.PrintLast Go.Proofs.YtndbeeboehekaaaGreatDoorW.PrintMore
set_option linter.unusedVariables false
set_option linter.unusedSimpArgs false
/-- spec.Exactly, as it stands. -/
def GlobE (w : World) : Prop := w.cell? ⟨0, 0, none⟩ = some (.float .f64 13830554455654793216) ∧ w.cell? ⟨0, 1, none⟩ = some (.bool false) ∧ w.cell? ⟨0, 2, none⟩ = some (.bool false)
theorem GlobE.below {w w' : World} {B : Nat} (h : GlobE w) (hb : Below B w w') (hB : 0 < B) : GlobE w' := by
  have e := hb.block 0 hB
  obtain ⟨h0, h1, h2⟩ := h
  refine ⟨?_, ?_, ?_⟩
  · unfold World.cell? at h0 ⊢; rw [e]; exact h0
  · unfold World.cell? at h1 ⊢; rw [e]; exact h1
  · unfold World.cell? at h2 ⊢; rw [e]; exact h2
abbrev mV : Value := .agg #[.float .f64 13830554455654793216, .bool false, .bool false]
/-- Whether two values are alike. -/
def likeV (x y : S25) : Bool := if x.f0 || y.f0 then x.f0 && y.f0 else (x.f1 == y.f1 && x.f2.toList == y.f2.toList)
abbrev tV (a0_1 : Int) (a0_2 : Bool) (a0_3 a0_4 a0_5 : Int) (a0_6 : ByteArray) (a0_7 : Bool) (A8 A9 : Option Addr) (n8 c8 n9 c9 : Nat) : Value := .agg #[.int .i64 15, .int .i64 a0_1, .bool a0_2, .int .i64 a0_3, .int .i64 a0_4, .int .i64 a0_5, .string a0_6, .bool a0_7, .slice A8 n8 c8, .slice A9 n9 c9]
set_option maxHeartbeats 4000000 in
set_option maxRecDepth 100000 in
theorem alike_calls (a0_1 : Int) (a0_2 : Bool) (a0_3 a0_4 a0_5 : Int) (a0_6 : ByteArray) (a0_7 : Bool) (A8 A9 : Option Addr) (n8 c8 n9 c9 : Nat) (x y : S25) (A3 A3' : Option Addr) (n3 c3 n3' c3' : Nat) (w : World) :
    Calls Tryz.prog 27 #[mV, tV a0_1 a0_2 a0_3 a0_4 a0_5 a0_6 a0_7 A8 A9 n8 c8 n9 c9, .agg #[.bool x.f0, .int .u64 x.f1, .string x.f2, .slice A3 n3 c3], .agg #[.bool y.f0, .int .u64 y.f1, .string y.f2, .slice A3' n3' c3']] w fun e w' => e = .returned (.bool (likeV x y)) ∧ Below w.heap.size w w' := by
  unfold likeV
  generalize x.f0 = xb
  generalize y.f0 = yb
  generalize x.f1 = xn
  generalize y.f1 = yn
  generalize x.f2 = xs
  generalize y.f2 = ys
  obtain ⟨r, hr⟩ : ∃ r, r = (if (xb || yb) = true then xb && yb else (xn == yn && xs.toList == ys.toList)) := ⟨_, rfl⟩
  rw [← hr]
  have HR := Aside0.mk hr
  clear hr
  go_enter Tryz.func27, Tryz.ntmps27
  cases xb
  · cases yb
    · go_wp2
      all_goals go_ret
      all_goals refine ⟨?_, below_alloc (below_alloc (below_alloc (below_alloc (Below.refl _ _) _) _) _) _⟩
      all_goals (have := HR.out; simp_all)
    · go_wp2
      all_goals go_ret
      all_goals refine ⟨?_, below_alloc (below_alloc (below_alloc (below_alloc (Below.refl _ _) _) _) _) _⟩
      all_goals (have := HR.out; simp_all)
  · go_wp2
    all_goals go_ret
    all_goals refine ⟨?_, below_alloc (below_alloc (below_alloc (below_alloc (Below.refl _ _) _) _) _) _⟩
    all_goals (have := HR.out; simp_all)
/-- Whether two lists of one length are alike. -/
def allLike (xs ys : List S25) : Bool := (List.range xs.length).all fun i => likeV (xs.getD i z25) (ys.getD i z25)
set_option maxHeartbeats 4000000 in
set_option maxRecDepth 100000 in
theorem all_calls (a0_1 : Int) (a0_2 : Bool) (a0_3 a0_4 a0_5 : Int) (a0_6 : ByteArray) (a0_7 : Bool) (A8 A9 : Option Addr) (n8 c8 n9 c9 : Nat) (A1 : Option Addr) (c1 : Nat) (xs : List S25) (A2 : Option Addr) (c2 : Nat) (ys : List S25) (w : World) (hr1 : Kd.C k25 w A1 xs.length xs) (hr2 : Kd.C k25 w A2 ys.length ys) (hl : xs.length = ys.length) (hm : xs.length ≤ 1000000) :
    Calls Tryz.prog 16 #[mV, tV a0_1 a0_2 a0_3 a0_4 a0_5 a0_6 a0_7 A8 A9 n8 c8 n9 c9, .slice A1 xs.length c1, .slice A2 ys.length c2] w fun e w' => e = .returned (.bool (allLike xs ys)) ∧ Below w.heap.size w w' := by
  obtain ⟨W2, hW2⟩ : ∃ W2, W2 = (w.alloc (.cells #[.float .f64 13830554455654793216, .bool false, .bool false] 46)).alloc (.cells #[.int .i64 15, .int .i64 a0_1, .bool a0_2, .int .i64 a0_3, .int .i64 a0_4, .int .i64 a0_5, .string a0_6, .bool a0_7, .slice A8 n8 c8, .slice A9 n9 c9] 32) := ⟨_, rfl⟩
  have b2 : Below w.heap.size w W2 := by rw [hW2]; exact below_alloc (below_alloc (Below.refl _ _) _) _
  have k0 : W2.heap[w.heap.size]? = some (.cells #[.float .f64 13830554455654793216, .bool false, .bool false] 46 (0, 0)) := by rw [hW2]; exact blk_alloc (blk_new w _) _
  have k1 : W2.heap[w.heap.size + 1]? = some (.cells #[.int .i64 15, .int .i64 a0_1, .bool a0_2, .int .i64 a0_3, .int .i64 a0_4, .int .i64 a0_5, .string a0_6, .bool a0_7, .slice A8 n8 c8, .slice A9 n9 c9] 32 (0, 0)) := by
    have h := blk_new (w.alloc (.cells #[.float .f64 13830554455654793216, .bool false, .bool false] 46)) (.cells #[.int .i64 15, .int .i64 a0_1, .bool a0_2, .int .i64 a0_3, .int .i64 a0_4, .int .i64 a0_5, .string a0_6, .bool a0_7, .slice A8 n8 c8, .slice A9 n9 c9] 32)
    rw [hW2]
    simpa using h
  have HB := Aside0.mk (And.intro b2 (And.intro k0 k1))
  have HR := Aside0.mk (And.intro (Kd.C_below hr1 b2) (Kd.C_below hr2 b2))
  have HM := Aside0.mk hm
  rw [← hl]
  have HL := Aside0.mk hl
  clear hr1 hr2 b2 k0 k1 hm hl
  go_enter Tryz.func16, Tryz.ntmps16
  go_upto_region 1 with (fail)
  rw [← hW2]
  clear hW2
  go_wp2
  go_loopg [17] (xs.length + 1) (fun kq v4 w' => ∃ (i : Nat), v4 = .int .i64 (i : Int) ∧ Aside0 (i + kq = xs.length + 1) ∧ Aside0 (i ≤ xs.length) ∧ Aside0 (Below W2.heap.size W2 w') ∧ Aside0 (∀ j, j < i → likeV (xs.getD j z25) (ys.getD j z25) = true))
  case atStart => exact ⟨0, rfl, ⟨by omega⟩, ⟨by omega⟩, ⟨Below.refl _ _⟩, ⟨fun j hj => absurd hj (by omega)⟩⟩
  case round =>
    obtain ⟨i, rfl, HK, HI, HBW, HS⟩ := hrel
    cases gk with
    | zero => exact absurd HK.out (by have := HI.out; omega)
    | succ k1 =>
      by_cases c2 : i < xs.length
      · have c2b : decide ((i : Int) < (xs.length : Int)) = true := decide_eq_true (by omega)
        obtain ⟨ad, A3, c3, e1, x0, x1, x2, x3, x4, x5⟩ := at_T25 (Kd.C_below HR.out.1 HBW.out) (i : Int) (by omega) (by omega)
        obtain ⟨ad', A3', c3', e1', y0, y1, y2, y3, y4, y5⟩ := at_T25 (Kd.C_below HR.out.2 HBW.out) (i : Int) (by omega) (by have := HL.out; omega)
        have hx : xs.getD i z25 = rd_T25 xs (i : Int) := by unfold rd_T25; rw [Int.toNat_natCast]
        have hy : ys.getD i z25 = rd_T25 ys (i : Int) := by unfold rd_T25; rw [Int.toNat_natCast]
        generalize rd_T25 xs (i : Int) = x at x0 x1 x2 x3 x4 x5 hx
        generalize rd_T25 ys (i : Int) = y at y0 y1 y2 y3 y4 y5 hy
        subst e1 e1'
        have g0 : (0 : Int) ≤ (i : Int) := by omega
        have g1 : (i : Int) < (xs.length : Int) := by omega
        simp only [Int.toNat_natCast] at x0 x1 x2 x3 y0 y1 y2 y3
        have HWI := Aside0.mk (show wrap64 ((i : Int) + 1) = ((i + 1 : Nat) : Int) by have := HM.out; unfold wrap64; omega)
        have z0 := blk_below HB.out.2.1 HBW.out
        have z1 := blk_below HB.out.2.2 HBW.out
        have p0 : wr.cell? ⟨w.heap.size, 0, none⟩ = some (.float .f64 13830554455654793216) := (blk_cell z0 0).trans rfl
        have p1 : wr.cell? ⟨w.heap.size, 1, none⟩ = some (.bool false) := (blk_cell z0 1).trans rfl
        have p2 : wr.cell? ⟨w.heap.size, 2, none⟩ = some (.bool false) := (blk_cell z0 2).trans rfl
        have t0 : wr.cell? ⟨w.heap.size + 1, 0, none⟩ = some (.int .i64 15) := (blk_cell z1 0).trans rfl
        have t1 : wr.cell? ⟨w.heap.size + 1, 1, none⟩ = some (.int .i64 a0_1) := (blk_cell z1 1).trans rfl
        have t2 : wr.cell? ⟨w.heap.size + 1, 2, none⟩ = some (.bool a0_2) := (blk_cell z1 2).trans rfl
        have t3 : wr.cell? ⟨w.heap.size + 1, 3, none⟩ = some (.int .i64 a0_3) := (blk_cell z1 3).trans rfl
        have t4 : wr.cell? ⟨w.heap.size + 1, 4, none⟩ = some (.int .i64 a0_4) := (blk_cell z1 4).trans rfl
        have t5 : wr.cell? ⟨w.heap.size + 1, 5, none⟩ = some (.int .i64 a0_5) := (blk_cell z1 5).trans rfl
        have t6 : wr.cell? ⟨w.heap.size + 1, 6, none⟩ = some (.string a0_6) := (blk_cell z1 6).trans rfl
        have t7 : wr.cell? ⟨w.heap.size + 1, 7, none⟩ = some (.bool a0_7) := (blk_cell z1 7).trans rfl
        have t8 : wr.cell? ⟨w.heap.size + 1, 8, none⟩ = some (.slice A8 n8 c8) := (blk_cell z1 8).trans rfl
        have t9 : wr.cell? ⟨w.heap.size + 1, 9, none⟩ = some (.slice A9 n9 c9) := (blk_cell z1 9).trans rfl
        clear z0 z1
        have HC := Aside0.mk (alike_calls a0_1 a0_2 a0_3 a0_4 a0_5 a0_6 a0_7 A8 A9 n8 c8 n9 c9 x y A3 A3' x.f3.length c3 y.f3.length c3' wr.drew)
        have hlike : likeV (xs.getD i z25) (ys.getD i z25) = likeV x y := by rw [hx, hy]
        generalize likeV x y = lk at hlike HC
        have HLK := Aside0.mk hlike
        clear hlike hx hy x4 x5 y4 y5
        go_wp2
        go_still_tail 10, (by kernel_rfl)
        change wpList _ _ _ _ _ wr.drew
        cases lk
        · go_wp2_with (first | (go_at_call 27; refine HC.out.mono ?_; rintro e w3 ⟨rfl, hb⟩; have BC := Aside0.mk hb; clear hb))
          go_ret
          have : allLike xs ys = false := by
            unfold allLike
            rw [List.all_eq_false]
            exact ⟨i, List.mem_range.2 c2, by rw [HLK.out]; simp⟩
          rw [this]
          exact ⟨rfl, (below_drew1 (HB.out.1.trans (HBW.out.mono HB.out.1.size))).trans (BC.out.mono (Nat.le_trans HB.out.1.size HBW.out.size))⟩
        · go_wp2_with (first | (go_at_call 27; refine HC.out.mono ?_; rintro e w3 ⟨rfl, hb⟩; have BC := Aside0.mk hb; clear hb))
          go_roundg k1
          case measure => have := HK.out; omega
          case rel => exact ⟨i + 1, (by first | rw [HWI.out] | rfl), ⟨by have := HK.out; omega⟩, ⟨by omega⟩, ⟨(below_drew1 HBW.out).trans (BC.out.mono HBW.out.size)⟩, ⟨fun j hj => by
            by_cases e : j < i
            · exact HS.out j e
            · rw [show j = i by omega, HLK.out]⟩⟩
      · have c2b : decide ((i : Int) < (xs.length : Int)) = false := decide_eq_false (by omega)
        have hi : i = xs.length := by have := HI.out; omega
        subst hi
        go_wp2
        go_ret
        have : allLike xs ys = true := List.all_eq_true.2 (fun j hj => HS.out j (List.mem_range.1 hj))
        rw [this]
        exact ⟨rfl, HB.out.1.trans (HBW.out.mono HB.out.1.size)⟩
/-- laws.likewise, at the law's type. -/
def laws_likewise.f (a0_0 : Int) (a0_1 : Int) (a0_2 : Bool) (a0_3 : Int) (a0_4 : Int) (a0_5 : Int) (a0_6 : ByteArray) (a0_7 : Bool) (l0_8 : List Int) (l0_9 : List Int) (l1 : List S25) (l2 : List S25) (a3 a4 : Bool) : Option Bool :=
  if a0_0 = 15 ∧ l1.length ≤ 100 then
    (if l1.length = l2.length then
      (spec_Nulls.f 200 l1).bind fun n1 => (spec_Nulls.f 200 l2).bind fun n2 =>
        if n1 = n2 then (spec_NullsSame.f 200 l1 l2).bind fun s => some (!s || (a4 && (a3 == allLike l1 l2))) else some (!a4)
    else some (!a4))
  else none
set_option maxHeartbeats 4000000 in
set_option maxRecDepth 100000 in
theorem like_ne (a0_1 : Int) (a0_2 : Bool) (a0_3 a0_4 a0_5 : Int) (a0_6 : ByteArray) (a0_7 : Bool) (A8 A9 : Option Addr) (n8 c8 n9 c9 : Nat) (A1 : Option Addr) (c1 : Nat) (xs : List S25) (A2 : Option Addr) (c2 : Nat) (ys : List S25) (a3 a4 : Bool) (w : World) (hl : xs.length ≠ ys.length) :
    Calls Tryz.prog 6 #[tV a0_1 a0_2 a0_3 a0_4 a0_5 a0_6 a0_7 A8 A9 n8 c8 n9 c9, .slice A1 xs.length c1, .slice A2 ys.length c2, .bool a3, .bool a4] w fun e w' => e = .returned (.bool (!a4)) ∧ Below w.heap.size w w' := by
  have hb : ((xs.length : Int) != (ys.length : Int)) = true := by simp; omega
  go_enter Tryz.func6, Tryz.ntmps6
  go_wp2
  go_ret
  exact ⟨rfl, below_alloc (Below.refl _ _) _⟩
set_option maxHeartbeats 4000000 in
set_option maxRecDepth 100000 in
theorem like_nn (a0_1 : Int) (a0_2 : Bool) (a0_3 a0_4 a0_5 : Int) (a0_6 : ByteArray) (a0_7 : Bool) (A8 A9 : Option Addr) (n8 c8 n9 c9 : Nat) (A1 : Option Addr) (c1 : Nat) (xs : List S25) (A2 : Option Addr) (c2 : Nat) (ys : List S25) (a3 a4 : Bool) (n1 n2 : Int) (w : World) (hr1 : Kd.C k25 w A1 xs.length xs) (hc1 : xs.length ≤ c1) (hr2 : Kd.C k25 w A2 ys.length ys) (hc2 : ys.length ≤ c2) (hl : xs.length = ys.length) (h1 : spec_Nulls.f 200 xs = some n1) (h2 : spec_Nulls.f 200 ys = some n2) (hn : n1 ≠ n2) :
    Calls Tryz.prog 6 #[tV a0_1 a0_2 a0_3 a0_4 a0_5 a0_6 a0_7 A8 A9 n8 c8 n9 c9, .slice A1 xs.length c1, .slice A2 ys.length c2, .bool a3, .bool a4] w fun e w' => e = .returned (.bool (!a4)) ∧ Below w.heap.size w w' := by
  obtain ⟨W2, hW2⟩ : ∃ W2, W2 = w.alloc (.cells #[.int .i64 15, .int .i64 a0_1, .bool a0_2, .int .i64 a0_3, .int .i64 a0_4, .int .i64 a0_5, .string a0_6, .bool a0_7, .slice A8 n8 c8, .slice A9 n9 c9] 32) := ⟨_, rfl⟩
  have b2 : Below w.heap.size w W2 := by rw [hW2]; exact below_alloc (Below.refl _ _) _
  have hb : ((ys.length : Int) != (ys.length : Int)) = false := by simp
  have hnb : (n1 != n2) = true := by simpa using hn
  have H1 := Aside0.mk (fun n => spec_Nulls.calls 200 A1 c1 xs n1 (W2.drewN n) (Kd.C_drewN (Kd.C_below hr1 b2) n) hc1 h1)
  have H2 := Aside0.mk (fun n => spec_Nulls.calls 200 A2 c2 ys n2 (W2.drewN n) (Kd.C_drewN (Kd.C_below hr2 b2) n) hc2 h2)
  rw [hl] at H1 ⊢
  have HB := Aside0.mk b2
  clear hr1 hr2 h1 h2 b2 hl hc1 hc2
  go_enter Tryz.func6, Tryz.ntmps6
  go_upto_region 1 with (fail)
  rw [← hW2]
  clear hW2
  go_wp2_with (first | (go_at_call 14; first | (refine (H1.out 0).mono ?_; rintro e w' ⟨rfl, ⟨m1, rfl⟩⟩; simp only [World.drewN_drewN]; clear H1) | (refine (H2.out _).mono ?_; rintro e w' ⟨rfl, ⟨m2, rfl⟩⟩; simp only [World.drewN_drewN]; clear H2)))
  go_ret
  exact ⟨rfl, pw_below_drewN HB.out _⟩
set_option maxHeartbeats 4000000 in
set_option maxRecDepth 100000 in
theorem like_eq (a0_1 : Int) (a0_2 : Bool) (a0_3 a0_4 a0_5 : Int) (a0_6 : ByteArray) (a0_7 : Bool) (A8 A9 : Option Addr) (n8 c8 n9 c9 : Nat) (A1 : Option Addr) (c1 : Nat) (xs : List S25) (A2 : Option Addr) (c2 : Nat) (ys : List S25) (a3 a4 s : Bool) (n1 : Int) (w : World) (hr1 : Kd.C k25 w A1 xs.length xs) (hc1 : xs.length ≤ c1) (hr2 : Kd.C k25 w A2 ys.length ys) (hc2 : ys.length ≤ c2) (hl : xs.length = ys.length) (hm : xs.length ≤ 100) (h1 : spec_Nulls.f 200 xs = some n1) (h2 : spec_Nulls.f 200 ys = some n1) (h3 : spec_NullsSame.f 200 xs ys = some s) (hE : GlobE w) :
    Calls Tryz.prog 6 #[tV a0_1 a0_2 a0_3 a0_4 a0_5 a0_6 a0_7 A8 A9 n8 c8 n9 c9, .slice A1 xs.length c1, .slice A2 ys.length c2, .bool a3, .bool a4] w fun e w' => e = .returned (.bool (!s || (a4 && (a3 == allLike xs ys)))) ∧ Below w.heap.size w w' := by
  obtain ⟨W2, hW2⟩ : ∃ W2, W2 = w.alloc (.cells #[.int .i64 15, .int .i64 a0_1, .bool a0_2, .int .i64 a0_3, .int .i64 a0_4, .int .i64 a0_5, .string a0_6, .bool a0_7, .slice A8 n8 c8, .slice A9 n9 c9] 32) := ⟨_, rfl⟩
  have b2 : Below w.heap.size w W2 := by rw [hW2]; exact below_alloc (Below.refl _ _) _
  have k1 : W2.heap[w.heap.size]? = some (.cells #[.int .i64 15, .int .i64 a0_1, .bool a0_2, .int .i64 a0_3, .int .i64 a0_4, .int .i64 a0_5, .string a0_6, .bool a0_7, .slice A8 n8 c8, .slice A9 n9 c9] 32 (0, 0)) := by rw [hW2]; exact blk_new w _
  have hb : ((ys.length : Int) != (ys.length : Int)) = false := by simp
  have hnb : (n1 != n1) = false := by simp
  have h0 : 0 < w.heap.size := World.block_lt_of_cell? w _ hE.1
  have hE2 := hE.below b2 h0
  have H1 := Aside0.mk (fun n => spec_Nulls.calls 200 A1 c1 xs n1 (W2.drewN n) (Kd.C_drewN (Kd.C_below hr1 b2) n) hc1 h1)
  have H2 := Aside0.mk (fun n => spec_Nulls.calls 200 A2 c2 ys n1 (W2.drewN n) (Kd.C_drewN (Kd.C_below hr2 b2) n) hc2 h2)
  have H3 := Aside0.mk (fun n => spec_NullsSame.calls 200 A1 c1 xs A2 c2 ys s (W2.drewN n) (Kd.C_drewN (Kd.C_below hr1 b2) n) hc1 (Kd.C_drewN (Kd.C_below hr2 b2) n) hc2 h3)
  have H4 := Aside0.mk (fun n => all_calls a0_1 a0_2 a0_3 a0_4 a0_5 a0_6 a0_7 A8 A9 n8 c8 n9 c9 A1 c1 xs A2 c2 ys (W2.drewN n) (Kd.C_drewN (Kd.C_below hr1 b2) n) (Kd.C_drewN (Kd.C_below hr2 b2) n) hl (by omega))
  rw [hl] at H1 H3 H4 ⊢
  have HB := Aside0.mk (And.intro b2 (And.intro k1 hE2))
  clear hr1 hr2 h1 h2 h3 b2 hl hc1 hc2 k1 hE hE2 hm h0
  generalize allLike xs ys = al at H4 ⊢
  obtain ⟨r, hr⟩ : ∃ r, r = (!s || (a4 && (a3 == al))) := ⟨_, rfl⟩
  rw [← hr]
  have HR := Aside0.mk hr
  clear hr
  go_enter Tryz.func6, Tryz.ntmps6
  go_upto_region 1 with (fail)
  rw [← hW2]
  clear hW2
  have t0 : W2.cell? ⟨w.heap.size, 0, none⟩ = some (.int .i64 15) := (blk_cell HB.out.2.1 0).trans rfl
  have t1 : W2.cell? ⟨w.heap.size, 1, none⟩ = some (.int .i64 a0_1) := (blk_cell HB.out.2.1 1).trans rfl
  have t2 : W2.cell? ⟨w.heap.size, 2, none⟩ = some (.bool a0_2) := (blk_cell HB.out.2.1 2).trans rfl
  have t3 : W2.cell? ⟨w.heap.size, 3, none⟩ = some (.int .i64 a0_3) := (blk_cell HB.out.2.1 3).trans rfl
  have t4 : W2.cell? ⟨w.heap.size, 4, none⟩ = some (.int .i64 a0_4) := (blk_cell HB.out.2.1 4).trans rfl
  have t5 : W2.cell? ⟨w.heap.size, 5, none⟩ = some (.int .i64 a0_5) := (blk_cell HB.out.2.1 5).trans rfl
  have t6 : W2.cell? ⟨w.heap.size, 6, none⟩ = some (.string a0_6) := (blk_cell HB.out.2.1 6).trans rfl
  have t7 : W2.cell? ⟨w.heap.size, 7, none⟩ = some (.bool a0_7) := (blk_cell HB.out.2.1 7).trans rfl
  have t8 : W2.cell? ⟨w.heap.size, 8, none⟩ = some (.slice A8 n8 c8) := (blk_cell HB.out.2.1 8).trans rfl
  have t9 : W2.cell? ⟨w.heap.size, 9, none⟩ = some (.slice A9 n9 c9) := (blk_cell HB.out.2.1 9).trans rfl
  obtain ⟨e0, e1, e2⟩ := HB.out.2.2
  have hbb : (a3 == al) = (a3 == al) := rfl
  cases s
  · go_wp2_with (first | (go_at_call 14; first | (refine (H1.out 0).mono ?_; rintro e w' ⟨rfl, ⟨m1, rfl⟩⟩; simp only [World.drewN_drewN]; clear H1) | (refine (H2.out _).mono ?_; rintro e w' ⟨rfl, ⟨m2, rfl⟩⟩; simp only [World.drewN_drewN]; clear H2)) | (go_at_call 15; refine (H3.out _).mono ?_; rintro e w' ⟨rfl, ⟨m3, rfl⟩⟩; simp only [World.drewN_drewN]; clear H3))
    go_ret
    rw [HR.out]
    exact ⟨by first | rfl | simp, pw_below_drewN HB.out.1 _⟩
  · cases a4
    · go_wp2_with (first | (go_at_call 14; first | (refine (H1.out 0).mono ?_; rintro e w' ⟨rfl, ⟨m1, rfl⟩⟩; simp only [World.drewN_drewN]; clear H1) | (refine (H2.out _).mono ?_; rintro e w' ⟨rfl, ⟨m2, rfl⟩⟩; simp only [World.drewN_drewN]; clear H2)) | (go_at_call 15; refine (H3.out _).mono ?_; rintro e w' ⟨rfl, ⟨m3, rfl⟩⟩; simp only [World.drewN_drewN]; clear H3))
      go_ret
      rw [HR.out]
      exact ⟨by first | rfl | simp, pw_below_drewN HB.out.1 _⟩
    · go_wp2_with (first | (go_at_call 14; first | (refine (H1.out 0).mono ?_; rintro e w' ⟨rfl, ⟨m1, rfl⟩⟩; simp only [World.drewN_drewN]; clear H1) | (refine (H2.out _).mono ?_; rintro e w' ⟨rfl, ⟨m2, rfl⟩⟩; simp only [World.drewN_drewN]; clear H2)) | (go_at_call 15; refine (H3.out _).mono ?_; rintro e w' ⟨rfl, ⟨m3, rfl⟩⟩; simp only [World.drewN_drewN]; clear H3) | (go_at_call 16; refine (H4.out _).mono ?_; rintro e w' ⟨rfl, hb4⟩; have B4 := Aside0.mk hb4; clear hb4))
      go_ret
      rw [HR.out]
      refine ⟨by first | rfl | simp, ?_⟩
      exact (HB.out.1.trans ((pw_below_drewN (Below.refl _ _) _).mono HB.out.1.size)).trans (B4.out.mono HB.out.1.size)
theorem laws_likewise.calls0 (a0_0 : Int) (a0_1 : Int) (a0_2 : Bool) (a0_3 : Int) (a0_4 : Int) (a0_5 : Int) (a0_6 : ByteArray) (a0_7 : Bool) (A0_8 : Option Addr) (c0_8 : Nat) (l0_8 : List Int) (A0_9 : Option Addr) (c0_9 : Nat) (l0_9 : List Int) (A1 : Option Addr) (c1 : Nat) (l1 : List S25) (A2 : Option Addr) (c2 : Nat) (l2 : List S25) (a3 a4 : Bool) (r : Bool) (w : World) (hr0_8 : Kd.C (Kd.int .i64) w A0_8 l0_8.length l0_8) (hc0_8 : l0_8.length ≤ c0_8) (hr0_9 : Kd.C (Kd.int .i64) w A0_9 l0_9.length l0_9) (hc0_9 : l0_9.length ≤ c0_9) (hr1 : Kd.C k25 w A1 l1.length l1) (hc1 : l1.length ≤ c1) (hr2 : Kd.C k25 w A2 l2.length l2) (hc2 : l2.length ≤ c2) (h : laws_likewise.f a0_0 a0_1 a0_2 a0_3 a0_4 a0_5 a0_6 a0_7 l0_8 l0_9 l1 l2 a3 a4 = some r) (hE : GlobE w) :
    Calls Tryz.prog 6 #[.agg #[.int .i64 a0_0, .int .i64 a0_1, .bool a0_2, .int .i64 a0_3, .int .i64 a0_4, .int .i64 a0_5, .string a0_6, .bool a0_7, .slice A0_8 l0_8.length c0_8, .slice A0_9 l0_9.length c0_9], .slice A1 l1.length c1, .slice A2 l2.length c2, .bool a3, .bool a4] w fun e w' => e = .returned (.bool r) ∧ Below w.heap.size w w' := by
  unfold laws_likewise.f at h
  by_cases h0 : a0_0 = 15 ∧ l1.length ≤ 100
  · rw [if_pos h0] at h
    obtain ⟨rfl, hm⟩ := h0
    by_cases hl : l1.length = l2.length
    · rw [if_pos hl] at h
      cases h1 : spec_Nulls.f 200 l1 with
      | none => rw [h1] at h; cases h
      | some n1 =>
        cases h2 : spec_Nulls.f 200 l2 with
        | none => rw [h1, h2] at h; cases h
        | some n2 =>
          rw [h1, h2, Option.bind_some, Option.bind_some] at h
          by_cases hn : n1 = n2
          · rw [if_pos hn] at h
            subst hn
            cases h3 : spec_NullsSame.f 200 l1 l2 with
            | none => rw [h3] at h; cases h
            | some s =>
              rw [h3, Option.bind_some] at h
              obtain rfl := Option.some.inj h
              exact like_eq a0_1 a0_2 a0_3 a0_4 a0_5 a0_6 a0_7 A0_8 A0_9 _ c0_8 _ c0_9 A1 c1 l1 A2 c2 l2 a3 a4 s n1 w hr1 hc1 hr2 hc2 hl hm h1 h2 h3 hE
          · rw [if_neg hn] at h
            obtain rfl := Option.some.inj h
            exact like_nn a0_1 a0_2 a0_3 a0_4 a0_5 a0_6 a0_7 A0_8 A0_9 _ c0_8 _ c0_9 A1 c1 l1 A2 c2 l2 a3 a4 n1 n2 w hr1 hc1 hr2 hc2 hl h1 h2 hn
    · rw [if_neg hl] at h
      obtain rfl := Option.some.inj h
      exact like_ne a0_1 a0_2 a0_3 a0_4 a0_5 a0_6 a0_7 A0_8 A0_9 _ c0_8 _ c0_9 A1 c1 l1 A2 c2 l2 a3 a4 w hl
  · rw [if_neg h0] at h
    cases h
/-- The package variables that are read. -/
def Glob (w : World) : Prop := GlobB w ∧ GlobE w
theorem Glob.below {w w' : World} (h : Glob w) (hb : Below w.heap.size w w') : Glob w' := by
  have h2 := h.1.block
  exact ⟨h.1.below hb h2, h.2.below hb (by omega)⟩
theorem laws_likewise.calls (a0_0 : Int) (a0_1 : Int) (a0_2 : Bool) (a0_3 : Int) (a0_4 : Int) (a0_5 : Int) (a0_6 : ByteArray) (a0_7 : Bool) (A0_8 : Option Addr) (c0_8 : Nat) (l0_8 : List Int) (A0_9 : Option Addr) (c0_9 : Nat) (l0_9 : List Int) (A1 : Option Addr) (c1 : Nat) (l1 : List S25) (A2 : Option Addr) (c2 : Nat) (l2 : List S25) (a3 a4 : Bool) (r : Bool) (w : World) (hr0_8 : Kd.C (Kd.int .i64) w A0_8 l0_8.length l0_8) (hc0_8 : l0_8.length ≤ c0_8) (hr0_9 : Kd.C (Kd.int .i64) w A0_9 l0_9.length l0_9) (hc0_9 : l0_9.length ≤ c0_9) (hr1 : Kd.C k25 w A1 l1.length l1) (hc1 : l1.length ≤ c1) (hr2 : Kd.C k25 w A2 l2.length l2) (hc2 : l2.length ≤ c2) (h : laws_likewise.f a0_0 a0_1 a0_2 a0_3 a0_4 a0_5 a0_6 a0_7 l0_8 l0_9 l1 l2 a3 a4 = some r) (hG : Glob w) :
    Calls Tryz.prog 6 #[.agg #[.int .i64 a0_0, .int .i64 a0_1, .bool a0_2, .int .i64 a0_3, .int .i64 a0_4, .int .i64 a0_5, .string a0_6, .bool a0_7, .slice A0_8 l0_8.length c0_8, .slice A0_9 l0_9.length c0_9], .slice A1 l1.length c1, .slice A2 l2.length c2, .bool a3, .bool a4] w fun e w' => e = .returned (.bool r) ∧ Below w.heap.size w w' :=
  laws_likewise.calls0 a0_0 a0_1 a0_2 a0_3 a0_4 a0_5 a0_6 a0_7 A0_8 c0_8 l0_8 A0_9 c0_9 l0_9 A1 c1 l1 A2 c2 l2 a3 a4 r w hr0_8 hc0_8 hr0_9 hc0_9 hr1 hc1 hr2 hc2 h hG.2
theorem impl_SameFixedSizeBinary.calls (A0 : Option Addr) (c0 : Nat) (l0 : List S25) (a1 a2 : Int) (A3 : Option Addr) (c3 : Nat) (l3 : List S25) (a4 a5 : Int) (r1 r2 : Bool) (w : World) (hr0 : Kd.C k25 w A0 l0.length l0) (hc0 : l0.length ≤ c0) (hr3 : Kd.C k25 w A3 l3.length l3) (hc3 : l3.length ≤ c3) (h : impl_SameFixedSizeBinary.f l0 a1 a2 l3 a4 a5 = some (r1, r2)) (hG : Glob w) :
    Calls Tryz.prog 4 #[.slice A0 l0.length c0, .int .i64 a1, .int .i64 a2, .slice A3 l3.length c3, .int .i64 a4, .int .i64 a5] w fun e w' => e = .returned (.tuple #[.bool r1, .bool r2]) ∧ Below w.heap.size w w' :=
  impl_SameFixedSizeBinary.calls0 A0 c0 l0 a1 a2 A3 c3 l3 a4 a5 r1 r2 w hr0 hc0 hr3 hc3 h hG.1
end Go.Proofs.YtndbeeboehekaaaGreatDoor.Q
