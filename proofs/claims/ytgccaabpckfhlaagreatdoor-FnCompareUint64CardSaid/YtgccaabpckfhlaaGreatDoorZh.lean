/- The comparing functions: of lists, of a list and a number. -/
import Derived.Test.YtgccaabpckfhlaaGreatDoorZf
import Derived.StillTailTactics
namespace Go.Proofs.YtgccaabpckfhlaaGreatDoor.Q
open Go.RowKit Go.Proofs.YtgccaabpckfhlaaGreatDoorW.PrintWords Go.Proofs.YtgccaabpckfhlaaGreatDoorW.PrintLast Go.Proofs.YtgccaabpckfhlaaGreatDoorW.PrintMore
set_option linter.unusedVariables false
set_option linter.unusedSimpArgs false
/-- A comparison of numbers: 0 equal, 1 not equal, 2 greater, 3 greater or equal. -/
def cmpB (op : Nat) (x y : Int) : Bool := if op = 0 then decide (x = y) else if op = 1 then decide (x ≠ y) else if op = 2 then decide (y < x) else decide (y ≤ x)
def cv (op : Nat) (x y : Int) : Int := if cmpB op x y then 1 else 0
/-- The first answers, as far as they are told. -/
def fillU (g : Nat → Int) (i : Nat) (us : List Int) : List Int := (List.range i).map g ++ us.drop i
theorem fillU_len (g : Nat → Int) (i : Nat) (us : List Int) (h : i ≤ us.length) : (fillU g i us).length = us.length := by simp [fillU]; omega
theorem fillU_step (g : Nat → Int) (i : Nat) (us : List Int) (h : i < us.length) : (fillU g i us).set i (g i) = fillU g (i + 1) us := by
  unfold fillU
  rw [List.set_append_right _ _ (by simp), List.range_succ, List.drop_eq_getElem_cons h]
  simp only [List.length_map, List.length_range, Nat.sub_self, List.set_cons_zero, List.map_append, List.map_cons, List.map_nil, List.append_assoc, List.cons_append, List.nil_append]
theorem RowK.drewN {k : IntKind} {t : TypeId} {w : World} {X : Nat} {l : List Int} (h : RowK k t w X l) (m : Nat) : RowK k t (w.drewN m) X l := blk_drewN h m
theorem cell_at {w : World} {A : Option Addr} {D d n : Nat} {xs : List Int} {k : IntKind} {t : TypeId} (h : RowK k t w D xs) (hA : 0 < n → A = some ⟨D, d, none⟩) (hn : d + n ≤ xs.length) (i : Nat) (hi : i < n) : ∃ ad, A = some ad ∧ w.cell? (ad.add i) = some (.int k (xs.getD (d + i) 0)) :=
  ⟨_, hA (by omega), by rw [show (⟨D, d, none⟩ : Addr).add i = ⟨D, d + i, none⟩ by simp [Addr.add]]; exact h.cell (d + i) (by omega)⟩
set_option maxHeartbeats 1000000 in
set_option maxRecDepth 100000 in
theorem cmpAA0_calls (A1 A2 : Option Addr) (D1 D2 d1 d2 n1 n2 c1 c2 : Nat) (xs ys : List Int) (T n c : Nat) (us : List Int) (w : World) (h1 : RowK .u64 26 w D1 xs) (hA1 : 0 < n1 → A1 = some ⟨D1, d1, none⟩) (hn1 : d1 + n1 ≤ xs.length) (hl1 : n ≤ n1) (hD1 : D1 ≠ T) (h2 : RowK .u64 26 w D2 ys) (hA2 : 0 < n2 → A2 = some ⟨D2, d2, none⟩) (hn2 : d2 + n2 ≤ ys.length) (hl2 : n ≤ n2) (hD2 : D2 ≠ T) (hT : RowK .u32 162 w T us) (hn : n ≤ us.length) (hm : n ≤ 32) :
    Calls Tryz.prog 45 #[.slice A1 n1 c1, .slice A2 n2 c2, .slice (some ⟨T, 0, none⟩) n c] w fun e w' => e = .returned (.tuple #[]) ∧ RowK .u32 162 w' T (fillU (fun i => cv 0 (xs.getD (d1 + i) 0) (ys.getD (d2 + i) 0)) n us) ∧ Tn (fun k => k = T) w w' := by
  obtain ⟨g, hg⟩ : ∃ g : Nat → Int, g = (fun i => cv 0 (xs.getD (d1 + i) 0) (ys.getD (d2 + i) 0)) := ⟨_, rfl⟩
  rw [← hg]
  have HG := Aside0.mk hg
  have H1 := Aside0.mk h1
  have CA1 := Aside0.mk (fun (W : World) (hW : RowK .u64 26 W D1 xs) (i : Nat) (hi : i < n1) => cell_at hW hA1 hn1 i hi)
  have L1 := Aside0.mk hl1
  have E1 := Aside0.mk hD1
  have H2 := Aside0.mk h2
  have CA2 := Aside0.mk (fun (W : World) (hW : RowK .u64 26 W D2 ys) (i : Nat) (hi : i < n2) => cell_at hW hA2 hn2 i hi)
  have L2 := Aside0.mk hl2
  have E2 := Aside0.mk hD2
  have HT := Aside0.mk (show RowK .u32 162 w T (fillU g 0 us) by simpa [fillU] using hT)
  have HN := Aside0.mk hn
  have HM := Aside0.mk hm
  have HTN := Aside0.mk (Tn.refl (fun k => k = T) w)
  clear h1 hA1 hn1 hl1 hD1 h2 hA2 hn2 hl2 hD2 hT hn hm hg
  go_enter Tryz.func45, Tryz.ntmps45
  go_wp2
  go_loopg [9] (n + 1) (fun kq v9 w' => ∃ (i : Nat), v9 = .int .i64 (i : Int) ∧ Aside0 (i + kq = n + 1) ∧ Aside0 (i ≤ n) ∧ Aside0 (RowK .u32 162 w' T (fillU g i us)) ∧ Aside0 (Tn (fun k => k = T) w w'))
  case atStart => exact ⟨0, rfl, ⟨by omega⟩, ⟨by omega⟩, HT, HTN⟩
  case round =>
    clear HT HTN
    obtain ⟨i, rfl, HK, HI, HT, HTN⟩ := hrel
    cases gk with
    | zero => exact absurd HK.out (by have := HI.out; omega)
    | succ k1 =>
      by_cases c2 : i < n
      · have c2b : decide ((i : Int) < (n : Int)) = true := decide_eq_true (by omega)
        obtain ⟨ad1, rfl, hc1⟩ := CA1.out wr (H1.out.kept HTN.out.kept E1.out) i (by have := L1.out; omega)
        have u1 : (i : Int) < (n1 : Int) := by have := L1.out; omega
        have u1n : i < n1 := by have := L1.out; omega
        obtain ⟨ad2, rfl, hc2⟩ := CA2.out wr (H2.out.kept HTN.out.kept E2.out) i (by have := L2.out; omega)
        have u2 : (i : Int) < (n2 : Int) := by have := L2.out; omega
        have u2n : i < n2 := by have := L2.out; omega
        have hct := HT.out.cell i (by rw [fillU_len g i us (by have := HN.out; omega)]; have := HN.out; omega)
        have hft := HT.out.frozen i
        have g0 : (0 : Int) ≤ (i : Int) := by omega
        have hwi : wrap64 ((i : Int) + 1) = ((i + 1 : Nat) : Int) := by have := HM.out; unfold wrap64; omega
        have hgi : g i = cv 0 (xs.getD (d1 + i) 0) (ys.getD (d2 + i) 0) := by rw [HG.out]
        generalize xs.getD (d1 + i) 0 = x at hc1 hgi
        generalize ys.getD (d2 + i) 0 = y at hc2 hgi
        have C2 := Aside0.mk c2
        by_cases cc : x = y
        · have hv : cv 0 x y = 1 := by simp [cv, cmpB, cc]
          have HV := Aside0.mk (hgi.trans hv)
          clear hgi hv
          have q1 : decide (x = y) = true := decide_eq_true cc
          go_upto_region 3 with (fail)
          go_quiet (fail)
          have HT := Aside0.mk (HT.out.drewN nq)
          have HTN := Aside0.mk (HTN.out.drewN nq)
          go_wp2
          go_roundg k1
          case measure => have := HK.out; omega
          case rel => exact ⟨i + 1, (by first | rw [hwi] | simp), ⟨by have := HK.out; omega⟩, ⟨by have := C2.out; omega⟩, ⟨by have := HT.out.put i 1; rw [← HV.out, fillU_step g i us (by have := HN.out; have := C2.out; omega), HV.out] at this; exact this⟩, ⟨HTN.out.setCell (p := ⟨T, i, none⟩) (.inl rfl) _⟩⟩
        · have hv : cv 0 x y = 0 := by simp [cv, cmpB, cc]
          have HV := Aside0.mk (hgi.trans hv)
          clear hgi hv
          have q1 : decide (x = y) = false := decide_eq_false cc
          go_upto_region 3 with (fail)
          go_quiet (fail)
          have HT := Aside0.mk (HT.out.drewN nq)
          have HTN := Aside0.mk (HTN.out.drewN nq)
          go_wp2
          go_roundg k1
          case measure => have := HK.out; omega
          case rel => exact ⟨i + 1, (by first | rw [hwi] | simp), ⟨by have := HK.out; omega⟩, ⟨by have := C2.out; omega⟩, ⟨by have := HT.out.put i 0; rw [← HV.out, fillU_step g i us (by have := HN.out; have := C2.out; omega), HV.out] at this; exact this⟩, ⟨HTN.out.setCell (p := ⟨T, i, none⟩) (.inl rfl) _⟩⟩
      · have c2b : decide ((i : Int) < (n : Int)) = false := decide_eq_false (by omega)
        have c2n : ¬ i < n := c2
        go_wp2
        go_end0
        have hi : i = n := by have := HI.out; omega
        subst hi
        exact ⟨rfl, HT.out, HTN.out⟩
set_option maxHeartbeats 1000000 in
set_option maxRecDepth 100000 in
theorem cmpAS0_calls (A1 : Option Addr) (D1 d1 n1 c1 : Nat) (xs : List Int) (y : Int) (T n c : Nat) (us : List Int) (w : World) (h1 : RowK .u64 26 w D1 xs) (hA1 : 0 < n1 → A1 = some ⟨D1, d1, none⟩) (hn1 : d1 + n1 ≤ xs.length) (hl1 : n ≤ n1) (hD1 : D1 ≠ T) (hT : RowK .u32 162 w T us) (hn : n ≤ us.length) (hm : n ≤ 32) :
    Calls Tryz.prog 46 #[.slice A1 n1 c1, .int .u64 y, .slice (some ⟨T, 0, none⟩) n c] w fun e w' => e = .returned (.tuple #[]) ∧ RowK .u32 162 w' T (fillU (fun i => cv 0 (xs.getD (d1 + i) 0) y) n us) ∧ Tn (fun k => k = T) w w' := by
  obtain ⟨g, hg⟩ : ∃ g : Nat → Int, g = (fun i => cv 0 (xs.getD (d1 + i) 0) y) := ⟨_, rfl⟩
  rw [← hg]
  have HG := Aside0.mk hg
  have H1 := Aside0.mk h1
  have CA1 := Aside0.mk (fun (W : World) (hW : RowK .u64 26 W D1 xs) (i : Nat) (hi : i < n1) => cell_at hW hA1 hn1 i hi)
  have L1 := Aside0.mk hl1
  have E1 := Aside0.mk hD1
  have HT := Aside0.mk (show RowK .u32 162 w T (fillU g 0 us) by simpa [fillU] using hT)
  have HN := Aside0.mk hn
  have HM := Aside0.mk hm
  have HTN := Aside0.mk (Tn.refl (fun k => k = T) w)
  clear h1 hA1 hn1 hl1 hD1 hT hn hm hg
  go_enter Tryz.func46, Tryz.ntmps46
  go_wp2
  go_loopg [9] (n + 1) (fun kq v9 w' => ∃ (i : Nat), v9 = .int .i64 (i : Int) ∧ Aside0 (i + kq = n + 1) ∧ Aside0 (i ≤ n) ∧ Aside0 (RowK .u32 162 w' T (fillU g i us)) ∧ Aside0 (Tn (fun k => k = T) w w'))
  case atStart => exact ⟨0, rfl, ⟨by omega⟩, ⟨by omega⟩, HT, HTN⟩
  case round =>
    clear HT HTN
    obtain ⟨i, rfl, HK, HI, HT, HTN⟩ := hrel
    cases gk with
    | zero => exact absurd HK.out (by have := HI.out; omega)
    | succ k1 =>
      by_cases c2 : i < n
      · have c2b : decide ((i : Int) < (n : Int)) = true := decide_eq_true (by omega)
        obtain ⟨ad1, rfl, hc1⟩ := CA1.out wr (H1.out.kept HTN.out.kept E1.out) i (by have := L1.out; omega)
        have u1 : (i : Int) < (n1 : Int) := by have := L1.out; omega
        have u1n : i < n1 := by have := L1.out; omega
        have hct := HT.out.cell i (by rw [fillU_len g i us (by have := HN.out; omega)]; have := HN.out; omega)
        have hft := HT.out.frozen i
        have g0 : (0 : Int) ≤ (i : Int) := by omega
        have hwi : wrap64 ((i : Int) + 1) = ((i + 1 : Nat) : Int) := by have := HM.out; unfold wrap64; omega
        have hgi : g i = cv 0 (xs.getD (d1 + i) 0) (y) := by rw [HG.out]
        generalize xs.getD (d1 + i) 0 = x at hc1 hgi
        have C2 := Aside0.mk c2
        by_cases cc : x = y
        · have hv : cv 0 x y = 1 := by simp [cv, cmpB, cc]
          have HV := Aside0.mk (hgi.trans hv)
          clear hgi hv
          have q1 : decide (x = y) = true := decide_eq_true cc
          go_wp2
          go_roundg k1
          case measure => have := HK.out; omega
          case rel => exact ⟨i + 1, (by first | rw [hwi] | simp), ⟨by have := HK.out; omega⟩, ⟨by have := C2.out; omega⟩, ⟨by have := HT.out.put i 1; rw [← HV.out, fillU_step g i us (by have := HN.out; have := C2.out; omega), HV.out] at this; exact this⟩, ⟨HTN.out.setCell (p := ⟨T, i, none⟩) (.inl rfl) _⟩⟩
        · have hv : cv 0 x y = 0 := by simp [cv, cmpB, cc]
          have HV := Aside0.mk (hgi.trans hv)
          clear hgi hv
          have q1 : decide (x = y) = false := decide_eq_false cc
          go_wp2
          go_roundg k1
          case measure => have := HK.out; omega
          case rel => exact ⟨i + 1, (by first | rw [hwi] | simp), ⟨by have := HK.out; omega⟩, ⟨by have := C2.out; omega⟩, ⟨by have := HT.out.put i 0; rw [← HV.out, fillU_step g i us (by have := HN.out; have := C2.out; omega), HV.out] at this; exact this⟩, ⟨HTN.out.setCell (p := ⟨T, i, none⟩) (.inl rfl) _⟩⟩
      · have c2b : decide ((i : Int) < (n : Int)) = false := decide_eq_false (by omega)
        have c2n : ¬ i < n := c2
        go_wp2
        go_end0
        have hi : i = n := by have := HI.out; omega
        subst hi
        exact ⟨rfl, HT.out, HTN.out⟩
set_option maxHeartbeats 1000000 in
set_option maxRecDepth 100000 in
theorem cmpSA0_calls (x : Int) (A2 : Option Addr) (D2 d2 n2 c2 : Nat) (ys : List Int) (T n c : Nat) (us : List Int) (w : World) (h2 : RowK .u64 26 w D2 ys) (hA2 : 0 < n2 → A2 = some ⟨D2, d2, none⟩) (hn2 : d2 + n2 ≤ ys.length) (hl2 : n ≤ n2) (hD2 : D2 ≠ T) (hT : RowK .u32 162 w T us) (hn : n ≤ us.length) (hm : n ≤ 32) :
    Calls Tryz.prog 47 #[.int .u64 x, .slice A2 n2 c2, .slice (some ⟨T, 0, none⟩) n c] w fun e w' => e = .returned (.tuple #[]) ∧ RowK .u32 162 w' T (fillU (fun i => cv 0 x (ys.getD (d2 + i) 0)) n us) ∧ Tn (fun k => k = T) w w' := by
  obtain ⟨g, hg⟩ : ∃ g : Nat → Int, g = (fun i => cv 0 x (ys.getD (d2 + i) 0)) := ⟨_, rfl⟩
  rw [← hg]
  have HG := Aside0.mk hg
  have H2 := Aside0.mk h2
  have CA2 := Aside0.mk (fun (W : World) (hW : RowK .u64 26 W D2 ys) (i : Nat) (hi : i < n2) => cell_at hW hA2 hn2 i hi)
  have L2 := Aside0.mk hl2
  have E2 := Aside0.mk hD2
  have HT := Aside0.mk (show RowK .u32 162 w T (fillU g 0 us) by simpa [fillU] using hT)
  have HN := Aside0.mk hn
  have HM := Aside0.mk hm
  have HTN := Aside0.mk (Tn.refl (fun k => k = T) w)
  clear h2 hA2 hn2 hl2 hD2 hT hn hm hg
  go_enter Tryz.func47, Tryz.ntmps47
  go_wp2
  go_loopg [9] (n + 1) (fun kq v9 w' => ∃ (i : Nat), v9 = .int .i64 (i : Int) ∧ Aside0 (i + kq = n + 1) ∧ Aside0 (i ≤ n) ∧ Aside0 (RowK .u32 162 w' T (fillU g i us)) ∧ Aside0 (Tn (fun k => k = T) w w'))
  case atStart => exact ⟨0, rfl, ⟨by omega⟩, ⟨by omega⟩, HT, HTN⟩
  case round =>
    clear HT HTN
    obtain ⟨i, rfl, HK, HI, HT, HTN⟩ := hrel
    cases gk with
    | zero => exact absurd HK.out (by have := HI.out; omega)
    | succ k1 =>
      by_cases c2 : i < n
      · have c2b : decide ((i : Int) < (n : Int)) = true := decide_eq_true (by omega)
        obtain ⟨ad2, rfl, hc2⟩ := CA2.out wr (H2.out.kept HTN.out.kept E2.out) i (by have := L2.out; omega)
        have u2 : (i : Int) < (n2 : Int) := by have := L2.out; omega
        have u2n : i < n2 := by have := L2.out; omega
        have hct := HT.out.cell i (by rw [fillU_len g i us (by have := HN.out; omega)]; have := HN.out; omega)
        have hft := HT.out.frozen i
        have g0 : (0 : Int) ≤ (i : Int) := by omega
        have hwi : wrap64 ((i : Int) + 1) = ((i + 1 : Nat) : Int) := by have := HM.out; unfold wrap64; omega
        have hgi : g i = cv 0 (x) (ys.getD (d2 + i) 0) := by rw [HG.out]
        generalize ys.getD (d2 + i) 0 = y at hc2 hgi
        have C2 := Aside0.mk c2
        by_cases cc : x = y
        · have hv : cv 0 x y = 1 := by simp [cv, cmpB, cc]
          have HV := Aside0.mk (hgi.trans hv)
          clear hgi hv
          have q1 : decide (x = y) = true := decide_eq_true cc
          go_wp2
          go_roundg k1
          case measure => have := HK.out; omega
          case rel => exact ⟨i + 1, (by first | rw [hwi] | simp), ⟨by have := HK.out; omega⟩, ⟨by have := C2.out; omega⟩, ⟨by have := HT.out.put i 1; rw [← HV.out, fillU_step g i us (by have := HN.out; have := C2.out; omega), HV.out] at this; exact this⟩, ⟨HTN.out.setCell (p := ⟨T, i, none⟩) (.inl rfl) _⟩⟩
        · have hv : cv 0 x y = 0 := by simp [cv, cmpB, cc]
          have HV := Aside0.mk (hgi.trans hv)
          clear hgi hv
          have q1 : decide (x = y) = false := decide_eq_false cc
          go_wp2
          go_roundg k1
          case measure => have := HK.out; omega
          case rel => exact ⟨i + 1, (by first | rw [hwi] | simp), ⟨by have := HK.out; omega⟩, ⟨by have := C2.out; omega⟩, ⟨by have := HT.out.put i 0; rw [← HV.out, fillU_step g i us (by have := HN.out; have := C2.out; omega), HV.out] at this; exact this⟩, ⟨HTN.out.setCell (p := ⟨T, i, none⟩) (.inl rfl) _⟩⟩
      · have c2b : decide ((i : Int) < (n : Int)) = false := decide_eq_false (by omega)
        have c2n : ¬ i < n := c2
        go_wp2
        go_end0
        have hi : i = n := by have := HI.out; omega
        subst hi
        exact ⟨rfl, HT.out, HTN.out⟩
set_option maxHeartbeats 1000000 in
set_option maxRecDepth 100000 in
theorem cmpAA1_calls (A1 A2 : Option Addr) (D1 D2 d1 d2 n1 n2 c1 c2 : Nat) (xs ys : List Int) (T n c : Nat) (us : List Int) (w : World) (h1 : RowK .u64 26 w D1 xs) (hA1 : 0 < n1 → A1 = some ⟨D1, d1, none⟩) (hn1 : d1 + n1 ≤ xs.length) (hl1 : n ≤ n1) (hD1 : D1 ≠ T) (h2 : RowK .u64 26 w D2 ys) (hA2 : 0 < n2 → A2 = some ⟨D2, d2, none⟩) (hn2 : d2 + n2 ≤ ys.length) (hl2 : n ≤ n2) (hD2 : D2 ≠ T) (hT : RowK .u32 162 w T us) (hn : n ≤ us.length) (hm : n ≤ 32) :
    Calls Tryz.prog 48 #[.slice A1 n1 c1, .slice A2 n2 c2, .slice (some ⟨T, 0, none⟩) n c] w fun e w' => e = .returned (.tuple #[]) ∧ RowK .u32 162 w' T (fillU (fun i => cv 1 (xs.getD (d1 + i) 0) (ys.getD (d2 + i) 0)) n us) ∧ Tn (fun k => k = T) w w' := by
  obtain ⟨g, hg⟩ : ∃ g : Nat → Int, g = (fun i => cv 1 (xs.getD (d1 + i) 0) (ys.getD (d2 + i) 0)) := ⟨_, rfl⟩
  rw [← hg]
  have HG := Aside0.mk hg
  have H1 := Aside0.mk h1
  have CA1 := Aside0.mk (fun (W : World) (hW : RowK .u64 26 W D1 xs) (i : Nat) (hi : i < n1) => cell_at hW hA1 hn1 i hi)
  have L1 := Aside0.mk hl1
  have E1 := Aside0.mk hD1
  have H2 := Aside0.mk h2
  have CA2 := Aside0.mk (fun (W : World) (hW : RowK .u64 26 W D2 ys) (i : Nat) (hi : i < n2) => cell_at hW hA2 hn2 i hi)
  have L2 := Aside0.mk hl2
  have E2 := Aside0.mk hD2
  have HT := Aside0.mk (show RowK .u32 162 w T (fillU g 0 us) by simpa [fillU] using hT)
  have HN := Aside0.mk hn
  have HM := Aside0.mk hm
  have HTN := Aside0.mk (Tn.refl (fun k => k = T) w)
  clear h1 hA1 hn1 hl1 hD1 h2 hA2 hn2 hl2 hD2 hT hn hm hg
  go_enter Tryz.func48, Tryz.ntmps48
  go_wp2
  go_loopg [9] (n + 1) (fun kq v9 w' => ∃ (i : Nat), v9 = .int .i64 (i : Int) ∧ Aside0 (i + kq = n + 1) ∧ Aside0 (i ≤ n) ∧ Aside0 (RowK .u32 162 w' T (fillU g i us)) ∧ Aside0 (Tn (fun k => k = T) w w'))
  case atStart => exact ⟨0, rfl, ⟨by omega⟩, ⟨by omega⟩, HT, HTN⟩
  case round =>
    clear HT HTN
    obtain ⟨i, rfl, HK, HI, HT, HTN⟩ := hrel
    cases gk with
    | zero => exact absurd HK.out (by have := HI.out; omega)
    | succ k1 =>
      by_cases c2 : i < n
      · have c2b : decide ((i : Int) < (n : Int)) = true := decide_eq_true (by omega)
        obtain ⟨ad1, rfl, hc1⟩ := CA1.out wr (H1.out.kept HTN.out.kept E1.out) i (by have := L1.out; omega)
        have u1 : (i : Int) < (n1 : Int) := by have := L1.out; omega
        have u1n : i < n1 := by have := L1.out; omega
        obtain ⟨ad2, rfl, hc2⟩ := CA2.out wr (H2.out.kept HTN.out.kept E2.out) i (by have := L2.out; omega)
        have u2 : (i : Int) < (n2 : Int) := by have := L2.out; omega
        have u2n : i < n2 := by have := L2.out; omega
        have hct := HT.out.cell i (by rw [fillU_len g i us (by have := HN.out; omega)]; have := HN.out; omega)
        have hft := HT.out.frozen i
        have g0 : (0 : Int) ≤ (i : Int) := by omega
        have hwi : wrap64 ((i : Int) + 1) = ((i + 1 : Nat) : Int) := by have := HM.out; unfold wrap64; omega
        have hgi : g i = cv 1 (xs.getD (d1 + i) 0) (ys.getD (d2 + i) 0) := by rw [HG.out]
        generalize xs.getD (d1 + i) 0 = x at hc1 hgi
        generalize ys.getD (d2 + i) 0 = y at hc2 hgi
        have C2 := Aside0.mk c2
        by_cases cc : x ≠ y
        · have hv : cv 1 x y = 1 := by simp [cv, cmpB, cc]
          have HV := Aside0.mk (hgi.trans hv)
          clear hgi hv
          have q1 : decide (x = y) = false := decide_eq_false cc; have q2 : decide (x ≠ y) = true := decide_eq_true cc
          go_upto_region 3 with (fail)
          go_quiet (fail)
          have HT := Aside0.mk (HT.out.drewN nq)
          have HTN := Aside0.mk (HTN.out.drewN nq)
          go_wp2
          go_roundg k1
          case measure => have := HK.out; omega
          case rel => exact ⟨i + 1, (by first | rw [hwi] | simp), ⟨by have := HK.out; omega⟩, ⟨by have := C2.out; omega⟩, ⟨by have := HT.out.put i 1; rw [← HV.out, fillU_step g i us (by have := HN.out; have := C2.out; omega), HV.out] at this; exact this⟩, ⟨HTN.out.setCell (p := ⟨T, i, none⟩) (.inl rfl) _⟩⟩
        · have hv : cv 1 x y = 0 := by simp [cv, cmpB, cc]
          have HV := Aside0.mk (hgi.trans hv)
          clear hgi hv
          have q1 : decide (x = y) = true := decide_eq_true (by omega)
          go_upto_region 3 with (fail)
          go_quiet (fail)
          have HT := Aside0.mk (HT.out.drewN nq)
          have HTN := Aside0.mk (HTN.out.drewN nq)
          go_wp2
          go_roundg k1
          case measure => have := HK.out; omega
          case rel => exact ⟨i + 1, (by first | rw [hwi] | simp), ⟨by have := HK.out; omega⟩, ⟨by have := C2.out; omega⟩, ⟨by have := HT.out.put i 0; rw [← HV.out, fillU_step g i us (by have := HN.out; have := C2.out; omega), HV.out] at this; exact this⟩, ⟨HTN.out.setCell (p := ⟨T, i, none⟩) (.inl rfl) _⟩⟩
      · have c2b : decide ((i : Int) < (n : Int)) = false := decide_eq_false (by omega)
        have c2n : ¬ i < n := c2
        go_wp2
        go_end0
        have hi : i = n := by have := HI.out; omega
        subst hi
        exact ⟨rfl, HT.out, HTN.out⟩
set_option maxHeartbeats 1000000 in
set_option maxRecDepth 100000 in
theorem cmpAS1_calls (A1 : Option Addr) (D1 d1 n1 c1 : Nat) (xs : List Int) (y : Int) (T n c : Nat) (us : List Int) (w : World) (h1 : RowK .u64 26 w D1 xs) (hA1 : 0 < n1 → A1 = some ⟨D1, d1, none⟩) (hn1 : d1 + n1 ≤ xs.length) (hl1 : n ≤ n1) (hD1 : D1 ≠ T) (hT : RowK .u32 162 w T us) (hn : n ≤ us.length) (hm : n ≤ 32) :
    Calls Tryz.prog 49 #[.slice A1 n1 c1, .int .u64 y, .slice (some ⟨T, 0, none⟩) n c] w fun e w' => e = .returned (.tuple #[]) ∧ RowK .u32 162 w' T (fillU (fun i => cv 1 (xs.getD (d1 + i) 0) y) n us) ∧ Tn (fun k => k = T) w w' := by
  obtain ⟨g, hg⟩ : ∃ g : Nat → Int, g = (fun i => cv 1 (xs.getD (d1 + i) 0) y) := ⟨_, rfl⟩
  rw [← hg]
  have HG := Aside0.mk hg
  have H1 := Aside0.mk h1
  have CA1 := Aside0.mk (fun (W : World) (hW : RowK .u64 26 W D1 xs) (i : Nat) (hi : i < n1) => cell_at hW hA1 hn1 i hi)
  have L1 := Aside0.mk hl1
  have E1 := Aside0.mk hD1
  have HT := Aside0.mk (show RowK .u32 162 w T (fillU g 0 us) by simpa [fillU] using hT)
  have HN := Aside0.mk hn
  have HM := Aside0.mk hm
  have HTN := Aside0.mk (Tn.refl (fun k => k = T) w)
  clear h1 hA1 hn1 hl1 hD1 hT hn hm hg
  go_enter Tryz.func49, Tryz.ntmps49
  go_wp2
  go_loopg [9] (n + 1) (fun kq v9 w' => ∃ (i : Nat), v9 = .int .i64 (i : Int) ∧ Aside0 (i + kq = n + 1) ∧ Aside0 (i ≤ n) ∧ Aside0 (RowK .u32 162 w' T (fillU g i us)) ∧ Aside0 (Tn (fun k => k = T) w w'))
  case atStart => exact ⟨0, rfl, ⟨by omega⟩, ⟨by omega⟩, HT, HTN⟩
  case round =>
    clear HT HTN
    obtain ⟨i, rfl, HK, HI, HT, HTN⟩ := hrel
    cases gk with
    | zero => exact absurd HK.out (by have := HI.out; omega)
    | succ k1 =>
      by_cases c2 : i < n
      · have c2b : decide ((i : Int) < (n : Int)) = true := decide_eq_true (by omega)
        obtain ⟨ad1, rfl, hc1⟩ := CA1.out wr (H1.out.kept HTN.out.kept E1.out) i (by have := L1.out; omega)
        have u1 : (i : Int) < (n1 : Int) := by have := L1.out; omega
        have u1n : i < n1 := by have := L1.out; omega
        have hct := HT.out.cell i (by rw [fillU_len g i us (by have := HN.out; omega)]; have := HN.out; omega)
        have hft := HT.out.frozen i
        have g0 : (0 : Int) ≤ (i : Int) := by omega
        have hwi : wrap64 ((i : Int) + 1) = ((i + 1 : Nat) : Int) := by have := HM.out; unfold wrap64; omega
        have hgi : g i = cv 1 (xs.getD (d1 + i) 0) (y) := by rw [HG.out]
        generalize xs.getD (d1 + i) 0 = x at hc1 hgi
        have C2 := Aside0.mk c2
        by_cases cc : x ≠ y
        · have hv : cv 1 x y = 1 := by simp [cv, cmpB, cc]
          have HV := Aside0.mk (hgi.trans hv)
          clear hgi hv
          have q1 : decide (x = y) = false := decide_eq_false cc; have q2 : decide (x ≠ y) = true := decide_eq_true cc
          go_wp2
          go_roundg k1
          case measure => have := HK.out; omega
          case rel => exact ⟨i + 1, (by first | rw [hwi] | simp), ⟨by have := HK.out; omega⟩, ⟨by have := C2.out; omega⟩, ⟨by have := HT.out.put i 1; rw [← HV.out, fillU_step g i us (by have := HN.out; have := C2.out; omega), HV.out] at this; exact this⟩, ⟨HTN.out.setCell (p := ⟨T, i, none⟩) (.inl rfl) _⟩⟩
        · have hv : cv 1 x y = 0 := by simp [cv, cmpB, cc]
          have HV := Aside0.mk (hgi.trans hv)
          clear hgi hv
          have q1 : decide (x = y) = true := decide_eq_true (by omega)
          go_wp2
          go_roundg k1
          case measure => have := HK.out; omega
          case rel => exact ⟨i + 1, (by first | rw [hwi] | simp), ⟨by have := HK.out; omega⟩, ⟨by have := C2.out; omega⟩, ⟨by have := HT.out.put i 0; rw [← HV.out, fillU_step g i us (by have := HN.out; have := C2.out; omega), HV.out] at this; exact this⟩, ⟨HTN.out.setCell (p := ⟨T, i, none⟩) (.inl rfl) _⟩⟩
      · have c2b : decide ((i : Int) < (n : Int)) = false := decide_eq_false (by omega)
        have c2n : ¬ i < n := c2
        go_wp2
        go_end0
        have hi : i = n := by have := HI.out; omega
        subst hi
        exact ⟨rfl, HT.out, HTN.out⟩
set_option maxHeartbeats 1000000 in
set_option maxRecDepth 100000 in
theorem cmpSA1_calls (x : Int) (A2 : Option Addr) (D2 d2 n2 c2 : Nat) (ys : List Int) (T n c : Nat) (us : List Int) (w : World) (h2 : RowK .u64 26 w D2 ys) (hA2 : 0 < n2 → A2 = some ⟨D2, d2, none⟩) (hn2 : d2 + n2 ≤ ys.length) (hl2 : n ≤ n2) (hD2 : D2 ≠ T) (hT : RowK .u32 162 w T us) (hn : n ≤ us.length) (hm : n ≤ 32) :
    Calls Tryz.prog 50 #[.int .u64 x, .slice A2 n2 c2, .slice (some ⟨T, 0, none⟩) n c] w fun e w' => e = .returned (.tuple #[]) ∧ RowK .u32 162 w' T (fillU (fun i => cv 1 x (ys.getD (d2 + i) 0)) n us) ∧ Tn (fun k => k = T) w w' := by
  obtain ⟨g, hg⟩ : ∃ g : Nat → Int, g = (fun i => cv 1 x (ys.getD (d2 + i) 0)) := ⟨_, rfl⟩
  rw [← hg]
  have HG := Aside0.mk hg
  have H2 := Aside0.mk h2
  have CA2 := Aside0.mk (fun (W : World) (hW : RowK .u64 26 W D2 ys) (i : Nat) (hi : i < n2) => cell_at hW hA2 hn2 i hi)
  have L2 := Aside0.mk hl2
  have E2 := Aside0.mk hD2
  have HT := Aside0.mk (show RowK .u32 162 w T (fillU g 0 us) by simpa [fillU] using hT)
  have HN := Aside0.mk hn
  have HM := Aside0.mk hm
  have HTN := Aside0.mk (Tn.refl (fun k => k = T) w)
  clear h2 hA2 hn2 hl2 hD2 hT hn hm hg
  go_enter Tryz.func50, Tryz.ntmps50
  go_wp2
  go_loopg [9] (n + 1) (fun kq v9 w' => ∃ (i : Nat), v9 = .int .i64 (i : Int) ∧ Aside0 (i + kq = n + 1) ∧ Aside0 (i ≤ n) ∧ Aside0 (RowK .u32 162 w' T (fillU g i us)) ∧ Aside0 (Tn (fun k => k = T) w w'))
  case atStart => exact ⟨0, rfl, ⟨by omega⟩, ⟨by omega⟩, HT, HTN⟩
  case round =>
    clear HT HTN
    obtain ⟨i, rfl, HK, HI, HT, HTN⟩ := hrel
    cases gk with
    | zero => exact absurd HK.out (by have := HI.out; omega)
    | succ k1 =>
      by_cases c2 : i < n
      · have c2b : decide ((i : Int) < (n : Int)) = true := decide_eq_true (by omega)
        obtain ⟨ad2, rfl, hc2⟩ := CA2.out wr (H2.out.kept HTN.out.kept E2.out) i (by have := L2.out; omega)
        have u2 : (i : Int) < (n2 : Int) := by have := L2.out; omega
        have u2n : i < n2 := by have := L2.out; omega
        have hct := HT.out.cell i (by rw [fillU_len g i us (by have := HN.out; omega)]; have := HN.out; omega)
        have hft := HT.out.frozen i
        have g0 : (0 : Int) ≤ (i : Int) := by omega
        have hwi : wrap64 ((i : Int) + 1) = ((i + 1 : Nat) : Int) := by have := HM.out; unfold wrap64; omega
        have hgi : g i = cv 1 (x) (ys.getD (d2 + i) 0) := by rw [HG.out]
        generalize ys.getD (d2 + i) 0 = y at hc2 hgi
        have C2 := Aside0.mk c2
        by_cases cc : x ≠ y
        · have hv : cv 1 x y = 1 := by simp [cv, cmpB, cc]
          have HV := Aside0.mk (hgi.trans hv)
          clear hgi hv
          have q1 : decide (x = y) = false := decide_eq_false cc; have q2 : decide (x ≠ y) = true := decide_eq_true cc
          go_wp2
          go_roundg k1
          case measure => have := HK.out; omega
          case rel => exact ⟨i + 1, (by first | rw [hwi] | simp), ⟨by have := HK.out; omega⟩, ⟨by have := C2.out; omega⟩, ⟨by have := HT.out.put i 1; rw [← HV.out, fillU_step g i us (by have := HN.out; have := C2.out; omega), HV.out] at this; exact this⟩, ⟨HTN.out.setCell (p := ⟨T, i, none⟩) (.inl rfl) _⟩⟩
        · have hv : cv 1 x y = 0 := by simp [cv, cmpB, cc]
          have HV := Aside0.mk (hgi.trans hv)
          clear hgi hv
          have q1 : decide (x = y) = true := decide_eq_true (by omega)
          go_wp2
          go_roundg k1
          case measure => have := HK.out; omega
          case rel => exact ⟨i + 1, (by first | rw [hwi] | simp), ⟨by have := HK.out; omega⟩, ⟨by have := C2.out; omega⟩, ⟨by have := HT.out.put i 0; rw [← HV.out, fillU_step g i us (by have := HN.out; have := C2.out; omega), HV.out] at this; exact this⟩, ⟨HTN.out.setCell (p := ⟨T, i, none⟩) (.inl rfl) _⟩⟩
      · have c2b : decide ((i : Int) < (n : Int)) = false := decide_eq_false (by omega)
        have c2n : ¬ i < n := c2
        go_wp2
        go_end0
        have hi : i = n := by have := HI.out; omega
        subst hi
        exact ⟨rfl, HT.out, HTN.out⟩
set_option maxHeartbeats 1000000 in
set_option maxRecDepth 100000 in
theorem cmpAA2_calls (A1 A2 : Option Addr) (D1 D2 d1 d2 n1 n2 c1 c2 : Nat) (xs ys : List Int) (T n c : Nat) (us : List Int) (w : World) (h1 : RowK .u64 26 w D1 xs) (hA1 : 0 < n1 → A1 = some ⟨D1, d1, none⟩) (hn1 : d1 + n1 ≤ xs.length) (hl1 : n ≤ n1) (hD1 : D1 ≠ T) (h2 : RowK .u64 26 w D2 ys) (hA2 : 0 < n2 → A2 = some ⟨D2, d2, none⟩) (hn2 : d2 + n2 ≤ ys.length) (hl2 : n ≤ n2) (hD2 : D2 ≠ T) (hT : RowK .u32 162 w T us) (hn : n ≤ us.length) (hm : n ≤ 32) :
    Calls Tryz.prog 51 #[.slice A1 n1 c1, .slice A2 n2 c2, .slice (some ⟨T, 0, none⟩) n c] w fun e w' => e = .returned (.tuple #[]) ∧ RowK .u32 162 w' T (fillU (fun i => cv 2 (xs.getD (d1 + i) 0) (ys.getD (d2 + i) 0)) n us) ∧ Tn (fun k => k = T) w w' := by
  obtain ⟨g, hg⟩ : ∃ g : Nat → Int, g = (fun i => cv 2 (xs.getD (d1 + i) 0) (ys.getD (d2 + i) 0)) := ⟨_, rfl⟩
  rw [← hg]
  have HG := Aside0.mk hg
  have H1 := Aside0.mk h1
  have CA1 := Aside0.mk (fun (W : World) (hW : RowK .u64 26 W D1 xs) (i : Nat) (hi : i < n1) => cell_at hW hA1 hn1 i hi)
  have L1 := Aside0.mk hl1
  have E1 := Aside0.mk hD1
  have H2 := Aside0.mk h2
  have CA2 := Aside0.mk (fun (W : World) (hW : RowK .u64 26 W D2 ys) (i : Nat) (hi : i < n2) => cell_at hW hA2 hn2 i hi)
  have L2 := Aside0.mk hl2
  have E2 := Aside0.mk hD2
  have HT := Aside0.mk (show RowK .u32 162 w T (fillU g 0 us) by simpa [fillU] using hT)
  have HN := Aside0.mk hn
  have HM := Aside0.mk hm
  have HTN := Aside0.mk (Tn.refl (fun k => k = T) w)
  clear h1 hA1 hn1 hl1 hD1 h2 hA2 hn2 hl2 hD2 hT hn hm hg
  go_enter Tryz.func51, Tryz.ntmps51
  go_wp2
  go_loopg [9] (n + 1) (fun kq v9 w' => ∃ (i : Nat), v9 = .int .i64 (i : Int) ∧ Aside0 (i + kq = n + 1) ∧ Aside0 (i ≤ n) ∧ Aside0 (RowK .u32 162 w' T (fillU g i us)) ∧ Aside0 (Tn (fun k => k = T) w w'))
  case atStart => exact ⟨0, rfl, ⟨by omega⟩, ⟨by omega⟩, HT, HTN⟩
  case round =>
    clear HT HTN
    obtain ⟨i, rfl, HK, HI, HT, HTN⟩ := hrel
    cases gk with
    | zero => exact absurd HK.out (by have := HI.out; omega)
    | succ k1 =>
      by_cases c2 : i < n
      · have c2b : decide ((i : Int) < (n : Int)) = true := decide_eq_true (by omega)
        obtain ⟨ad1, rfl, hc1⟩ := CA1.out wr (H1.out.kept HTN.out.kept E1.out) i (by have := L1.out; omega)
        have u1 : (i : Int) < (n1 : Int) := by have := L1.out; omega
        have u1n : i < n1 := by have := L1.out; omega
        obtain ⟨ad2, rfl, hc2⟩ := CA2.out wr (H2.out.kept HTN.out.kept E2.out) i (by have := L2.out; omega)
        have u2 : (i : Int) < (n2 : Int) := by have := L2.out; omega
        have u2n : i < n2 := by have := L2.out; omega
        have hct := HT.out.cell i (by rw [fillU_len g i us (by have := HN.out; omega)]; have := HN.out; omega)
        have hft := HT.out.frozen i
        have g0 : (0 : Int) ≤ (i : Int) := by omega
        have hwi : wrap64 ((i : Int) + 1) = ((i + 1 : Nat) : Int) := by have := HM.out; unfold wrap64; omega
        have hgi : g i = cv 2 (xs.getD (d1 + i) 0) (ys.getD (d2 + i) 0) := by rw [HG.out]
        generalize xs.getD (d1 + i) 0 = x at hc1 hgi
        generalize ys.getD (d2 + i) 0 = y at hc2 hgi
        have C2 := Aside0.mk c2
        by_cases cc : y < x
        · have hv : cv 2 x y = 1 := by simp [cv, cmpB, cc]
          have HV := Aside0.mk (hgi.trans hv)
          clear hgi hv
          have q1 : decide (y < x) = true := decide_eq_true cc
          go_upto_region 3 with (fail)
          go_quiet (fail)
          have HT := Aside0.mk (HT.out.drewN nq)
          have HTN := Aside0.mk (HTN.out.drewN nq)
          go_wp2
          go_roundg k1
          case measure => have := HK.out; omega
          case rel => exact ⟨i + 1, (by first | rw [hwi] | simp), ⟨by have := HK.out; omega⟩, ⟨by have := C2.out; omega⟩, ⟨by have := HT.out.put i 1; rw [← HV.out, fillU_step g i us (by have := HN.out; have := C2.out; omega), HV.out] at this; exact this⟩, ⟨HTN.out.setCell (p := ⟨T, i, none⟩) (.inl rfl) _⟩⟩
        · have hv : cv 2 x y = 0 := by simp [cv, cmpB, cc]
          have HV := Aside0.mk (hgi.trans hv)
          clear hgi hv
          have q1 : decide (y < x) = false := decide_eq_false cc
          go_upto_region 3 with (fail)
          go_quiet (fail)
          have HT := Aside0.mk (HT.out.drewN nq)
          have HTN := Aside0.mk (HTN.out.drewN nq)
          go_wp2
          go_roundg k1
          case measure => have := HK.out; omega
          case rel => exact ⟨i + 1, (by first | rw [hwi] | simp), ⟨by have := HK.out; omega⟩, ⟨by have := C2.out; omega⟩, ⟨by have := HT.out.put i 0; rw [← HV.out, fillU_step g i us (by have := HN.out; have := C2.out; omega), HV.out] at this; exact this⟩, ⟨HTN.out.setCell (p := ⟨T, i, none⟩) (.inl rfl) _⟩⟩
      · have c2b : decide ((i : Int) < (n : Int)) = false := decide_eq_false (by omega)
        have c2n : ¬ i < n := c2
        go_wp2
        go_end0
        have hi : i = n := by have := HI.out; omega
        subst hi
        exact ⟨rfl, HT.out, HTN.out⟩
set_option maxHeartbeats 1000000 in
set_option maxRecDepth 100000 in
theorem cmpAS2_calls (A1 : Option Addr) (D1 d1 n1 c1 : Nat) (xs : List Int) (y : Int) (T n c : Nat) (us : List Int) (w : World) (h1 : RowK .u64 26 w D1 xs) (hA1 : 0 < n1 → A1 = some ⟨D1, d1, none⟩) (hn1 : d1 + n1 ≤ xs.length) (hl1 : n ≤ n1) (hD1 : D1 ≠ T) (hT : RowK .u32 162 w T us) (hn : n ≤ us.length) (hm : n ≤ 32) :
    Calls Tryz.prog 52 #[.slice A1 n1 c1, .int .u64 y, .slice (some ⟨T, 0, none⟩) n c] w fun e w' => e = .returned (.tuple #[]) ∧ RowK .u32 162 w' T (fillU (fun i => cv 2 (xs.getD (d1 + i) 0) y) n us) ∧ Tn (fun k => k = T) w w' := by
  obtain ⟨g, hg⟩ : ∃ g : Nat → Int, g = (fun i => cv 2 (xs.getD (d1 + i) 0) y) := ⟨_, rfl⟩
  rw [← hg]
  have HG := Aside0.mk hg
  have H1 := Aside0.mk h1
  have CA1 := Aside0.mk (fun (W : World) (hW : RowK .u64 26 W D1 xs) (i : Nat) (hi : i < n1) => cell_at hW hA1 hn1 i hi)
  have L1 := Aside0.mk hl1
  have E1 := Aside0.mk hD1
  have HT := Aside0.mk (show RowK .u32 162 w T (fillU g 0 us) by simpa [fillU] using hT)
  have HN := Aside0.mk hn
  have HM := Aside0.mk hm
  have HTN := Aside0.mk (Tn.refl (fun k => k = T) w)
  clear h1 hA1 hn1 hl1 hD1 hT hn hm hg
  go_enter Tryz.func52, Tryz.ntmps52
  go_wp2
  go_loopg [9] (n + 1) (fun kq v9 w' => ∃ (i : Nat), v9 = .int .i64 (i : Int) ∧ Aside0 (i + kq = n + 1) ∧ Aside0 (i ≤ n) ∧ Aside0 (RowK .u32 162 w' T (fillU g i us)) ∧ Aside0 (Tn (fun k => k = T) w w'))
  case atStart => exact ⟨0, rfl, ⟨by omega⟩, ⟨by omega⟩, HT, HTN⟩
  case round =>
    clear HT HTN
    obtain ⟨i, rfl, HK, HI, HT, HTN⟩ := hrel
    cases gk with
    | zero => exact absurd HK.out (by have := HI.out; omega)
    | succ k1 =>
      by_cases c2 : i < n
      · have c2b : decide ((i : Int) < (n : Int)) = true := decide_eq_true (by omega)
        obtain ⟨ad1, rfl, hc1⟩ := CA1.out wr (H1.out.kept HTN.out.kept E1.out) i (by have := L1.out; omega)
        have u1 : (i : Int) < (n1 : Int) := by have := L1.out; omega
        have u1n : i < n1 := by have := L1.out; omega
        have hct := HT.out.cell i (by rw [fillU_len g i us (by have := HN.out; omega)]; have := HN.out; omega)
        have hft := HT.out.frozen i
        have g0 : (0 : Int) ≤ (i : Int) := by omega
        have hwi : wrap64 ((i : Int) + 1) = ((i + 1 : Nat) : Int) := by have := HM.out; unfold wrap64; omega
        have hgi : g i = cv 2 (xs.getD (d1 + i) 0) (y) := by rw [HG.out]
        generalize xs.getD (d1 + i) 0 = x at hc1 hgi
        have C2 := Aside0.mk c2
        by_cases cc : y < x
        · have hv : cv 2 x y = 1 := by simp [cv, cmpB, cc]
          have HV := Aside0.mk (hgi.trans hv)
          clear hgi hv
          have q1 : decide (y < x) = true := decide_eq_true cc
          go_wp2
          go_roundg k1
          case measure => have := HK.out; omega
          case rel => exact ⟨i + 1, (by first | rw [hwi] | simp), ⟨by have := HK.out; omega⟩, ⟨by have := C2.out; omega⟩, ⟨by have := HT.out.put i 1; rw [← HV.out, fillU_step g i us (by have := HN.out; have := C2.out; omega), HV.out] at this; exact this⟩, ⟨HTN.out.setCell (p := ⟨T, i, none⟩) (.inl rfl) _⟩⟩
        · have hv : cv 2 x y = 0 := by simp [cv, cmpB, cc]
          have HV := Aside0.mk (hgi.trans hv)
          clear hgi hv
          have q1 : decide (y < x) = false := decide_eq_false cc
          go_wp2
          go_roundg k1
          case measure => have := HK.out; omega
          case rel => exact ⟨i + 1, (by first | rw [hwi] | simp), ⟨by have := HK.out; omega⟩, ⟨by have := C2.out; omega⟩, ⟨by have := HT.out.put i 0; rw [← HV.out, fillU_step g i us (by have := HN.out; have := C2.out; omega), HV.out] at this; exact this⟩, ⟨HTN.out.setCell (p := ⟨T, i, none⟩) (.inl rfl) _⟩⟩
      · have c2b : decide ((i : Int) < (n : Int)) = false := decide_eq_false (by omega)
        have c2n : ¬ i < n := c2
        go_wp2
        go_end0
        have hi : i = n := by have := HI.out; omega
        subst hi
        exact ⟨rfl, HT.out, HTN.out⟩
set_option maxHeartbeats 1000000 in
set_option maxRecDepth 100000 in
theorem cmpSA2_calls (x : Int) (A2 : Option Addr) (D2 d2 n2 c2 : Nat) (ys : List Int) (T n c : Nat) (us : List Int) (w : World) (h2 : RowK .u64 26 w D2 ys) (hA2 : 0 < n2 → A2 = some ⟨D2, d2, none⟩) (hn2 : d2 + n2 ≤ ys.length) (hl2 : n ≤ n2) (hD2 : D2 ≠ T) (hT : RowK .u32 162 w T us) (hn : n ≤ us.length) (hm : n ≤ 32) :
    Calls Tryz.prog 53 #[.int .u64 x, .slice A2 n2 c2, .slice (some ⟨T, 0, none⟩) n c] w fun e w' => e = .returned (.tuple #[]) ∧ RowK .u32 162 w' T (fillU (fun i => cv 2 x (ys.getD (d2 + i) 0)) n us) ∧ Tn (fun k => k = T) w w' := by
  obtain ⟨g, hg⟩ : ∃ g : Nat → Int, g = (fun i => cv 2 x (ys.getD (d2 + i) 0)) := ⟨_, rfl⟩
  rw [← hg]
  have HG := Aside0.mk hg
  have H2 := Aside0.mk h2
  have CA2 := Aside0.mk (fun (W : World) (hW : RowK .u64 26 W D2 ys) (i : Nat) (hi : i < n2) => cell_at hW hA2 hn2 i hi)
  have L2 := Aside0.mk hl2
  have E2 := Aside0.mk hD2
  have HT := Aside0.mk (show RowK .u32 162 w T (fillU g 0 us) by simpa [fillU] using hT)
  have HN := Aside0.mk hn
  have HM := Aside0.mk hm
  have HTN := Aside0.mk (Tn.refl (fun k => k = T) w)
  clear h2 hA2 hn2 hl2 hD2 hT hn hm hg
  go_enter Tryz.func53, Tryz.ntmps53
  go_wp2
  go_loopg [9] (n + 1) (fun kq v9 w' => ∃ (i : Nat), v9 = .int .i64 (i : Int) ∧ Aside0 (i + kq = n + 1) ∧ Aside0 (i ≤ n) ∧ Aside0 (RowK .u32 162 w' T (fillU g i us)) ∧ Aside0 (Tn (fun k => k = T) w w'))
  case atStart => exact ⟨0, rfl, ⟨by omega⟩, ⟨by omega⟩, HT, HTN⟩
  case round =>
    clear HT HTN
    obtain ⟨i, rfl, HK, HI, HT, HTN⟩ := hrel
    cases gk with
    | zero => exact absurd HK.out (by have := HI.out; omega)
    | succ k1 =>
      by_cases c2 : i < n
      · have c2b : decide ((i : Int) < (n : Int)) = true := decide_eq_true (by omega)
        obtain ⟨ad2, rfl, hc2⟩ := CA2.out wr (H2.out.kept HTN.out.kept E2.out) i (by have := L2.out; omega)
        have u2 : (i : Int) < (n2 : Int) := by have := L2.out; omega
        have u2n : i < n2 := by have := L2.out; omega
        have hct := HT.out.cell i (by rw [fillU_len g i us (by have := HN.out; omega)]; have := HN.out; omega)
        have hft := HT.out.frozen i
        have g0 : (0 : Int) ≤ (i : Int) := by omega
        have hwi : wrap64 ((i : Int) + 1) = ((i + 1 : Nat) : Int) := by have := HM.out; unfold wrap64; omega
        have hgi : g i = cv 2 (x) (ys.getD (d2 + i) 0) := by rw [HG.out]
        generalize ys.getD (d2 + i) 0 = y at hc2 hgi
        have C2 := Aside0.mk c2
        by_cases cc : y < x
        · have hv : cv 2 x y = 1 := by simp [cv, cmpB, cc]
          have HV := Aside0.mk (hgi.trans hv)
          clear hgi hv
          have q1 : decide (y < x) = true := decide_eq_true cc
          go_wp2
          go_roundg k1
          case measure => have := HK.out; omega
          case rel => exact ⟨i + 1, (by first | rw [hwi] | simp), ⟨by have := HK.out; omega⟩, ⟨by have := C2.out; omega⟩, ⟨by have := HT.out.put i 1; rw [← HV.out, fillU_step g i us (by have := HN.out; have := C2.out; omega), HV.out] at this; exact this⟩, ⟨HTN.out.setCell (p := ⟨T, i, none⟩) (.inl rfl) _⟩⟩
        · have hv : cv 2 x y = 0 := by simp [cv, cmpB, cc]
          have HV := Aside0.mk (hgi.trans hv)
          clear hgi hv
          have q1 : decide (y < x) = false := decide_eq_false cc
          go_wp2
          go_roundg k1
          case measure => have := HK.out; omega
          case rel => exact ⟨i + 1, (by first | rw [hwi] | simp), ⟨by have := HK.out; omega⟩, ⟨by have := C2.out; omega⟩, ⟨by have := HT.out.put i 0; rw [← HV.out, fillU_step g i us (by have := HN.out; have := C2.out; omega), HV.out] at this; exact this⟩, ⟨HTN.out.setCell (p := ⟨T, i, none⟩) (.inl rfl) _⟩⟩
      · have c2b : decide ((i : Int) < (n : Int)) = false := decide_eq_false (by omega)
        have c2n : ¬ i < n := c2
        go_wp2
        go_end0
        have hi : i = n := by have := HI.out; omega
        subst hi
        exact ⟨rfl, HT.out, HTN.out⟩
set_option maxHeartbeats 1000000 in
set_option maxRecDepth 100000 in
theorem cmpAA3_calls (A1 A2 : Option Addr) (D1 D2 d1 d2 n1 n2 c1 c2 : Nat) (xs ys : List Int) (T n c : Nat) (us : List Int) (w : World) (h1 : RowK .u64 26 w D1 xs) (hA1 : 0 < n1 → A1 = some ⟨D1, d1, none⟩) (hn1 : d1 + n1 ≤ xs.length) (hl1 : n ≤ n1) (hD1 : D1 ≠ T) (h2 : RowK .u64 26 w D2 ys) (hA2 : 0 < n2 → A2 = some ⟨D2, d2, none⟩) (hn2 : d2 + n2 ≤ ys.length) (hl2 : n ≤ n2) (hD2 : D2 ≠ T) (hT : RowK .u32 162 w T us) (hn : n ≤ us.length) (hm : n ≤ 32) :
    Calls Tryz.prog 54 #[.slice A1 n1 c1, .slice A2 n2 c2, .slice (some ⟨T, 0, none⟩) n c] w fun e w' => e = .returned (.tuple #[]) ∧ RowK .u32 162 w' T (fillU (fun i => cv 3 (xs.getD (d1 + i) 0) (ys.getD (d2 + i) 0)) n us) ∧ Tn (fun k => k = T) w w' := by
  obtain ⟨g, hg⟩ : ∃ g : Nat → Int, g = (fun i => cv 3 (xs.getD (d1 + i) 0) (ys.getD (d2 + i) 0)) := ⟨_, rfl⟩
  rw [← hg]
  have HG := Aside0.mk hg
  have H1 := Aside0.mk h1
  have CA1 := Aside0.mk (fun (W : World) (hW : RowK .u64 26 W D1 xs) (i : Nat) (hi : i < n1) => cell_at hW hA1 hn1 i hi)
  have L1 := Aside0.mk hl1
  have E1 := Aside0.mk hD1
  have H2 := Aside0.mk h2
  have CA2 := Aside0.mk (fun (W : World) (hW : RowK .u64 26 W D2 ys) (i : Nat) (hi : i < n2) => cell_at hW hA2 hn2 i hi)
  have L2 := Aside0.mk hl2
  have E2 := Aside0.mk hD2
  have HT := Aside0.mk (show RowK .u32 162 w T (fillU g 0 us) by simpa [fillU] using hT)
  have HN := Aside0.mk hn
  have HM := Aside0.mk hm
  have HTN := Aside0.mk (Tn.refl (fun k => k = T) w)
  clear h1 hA1 hn1 hl1 hD1 h2 hA2 hn2 hl2 hD2 hT hn hm hg
  go_enter Tryz.func54, Tryz.ntmps54
  go_wp2
  go_loopg [9] (n + 1) (fun kq v9 w' => ∃ (i : Nat), v9 = .int .i64 (i : Int) ∧ Aside0 (i + kq = n + 1) ∧ Aside0 (i ≤ n) ∧ Aside0 (RowK .u32 162 w' T (fillU g i us)) ∧ Aside0 (Tn (fun k => k = T) w w'))
  case atStart => exact ⟨0, rfl, ⟨by omega⟩, ⟨by omega⟩, HT, HTN⟩
  case round =>
    clear HT HTN
    obtain ⟨i, rfl, HK, HI, HT, HTN⟩ := hrel
    cases gk with
    | zero => exact absurd HK.out (by have := HI.out; omega)
    | succ k1 =>
      by_cases c2 : i < n
      · have c2b : decide ((i : Int) < (n : Int)) = true := decide_eq_true (by omega)
        obtain ⟨ad1, rfl, hc1⟩ := CA1.out wr (H1.out.kept HTN.out.kept E1.out) i (by have := L1.out; omega)
        have u1 : (i : Int) < (n1 : Int) := by have := L1.out; omega
        have u1n : i < n1 := by have := L1.out; omega
        obtain ⟨ad2, rfl, hc2⟩ := CA2.out wr (H2.out.kept HTN.out.kept E2.out) i (by have := L2.out; omega)
        have u2 : (i : Int) < (n2 : Int) := by have := L2.out; omega
        have u2n : i < n2 := by have := L2.out; omega
        have hct := HT.out.cell i (by rw [fillU_len g i us (by have := HN.out; omega)]; have := HN.out; omega)
        have hft := HT.out.frozen i
        have g0 : (0 : Int) ≤ (i : Int) := by omega
        have hwi : wrap64 ((i : Int) + 1) = ((i + 1 : Nat) : Int) := by have := HM.out; unfold wrap64; omega
        have hgi : g i = cv 3 (xs.getD (d1 + i) 0) (ys.getD (d2 + i) 0) := by rw [HG.out]
        generalize xs.getD (d1 + i) 0 = x at hc1 hgi
        generalize ys.getD (d2 + i) 0 = y at hc2 hgi
        have C2 := Aside0.mk c2
        by_cases cc : y ≤ x
        · have hv : cv 3 x y = 1 := by simp [cv, cmpB, cc]
          have HV := Aside0.mk (hgi.trans hv)
          clear hgi hv
          have q1 : decide (y ≤ x) = true := decide_eq_true cc
          go_upto_region 3 with (fail)
          go_quiet (fail)
          have HT := Aside0.mk (HT.out.drewN nq)
          have HTN := Aside0.mk (HTN.out.drewN nq)
          go_wp2
          go_roundg k1
          case measure => have := HK.out; omega
          case rel => exact ⟨i + 1, (by first | rw [hwi] | simp), ⟨by have := HK.out; omega⟩, ⟨by have := C2.out; omega⟩, ⟨by have := HT.out.put i 1; rw [← HV.out, fillU_step g i us (by have := HN.out; have := C2.out; omega), HV.out] at this; exact this⟩, ⟨HTN.out.setCell (p := ⟨T, i, none⟩) (.inl rfl) _⟩⟩
        · have hv : cv 3 x y = 0 := by simp [cv, cmpB, cc]
          have HV := Aside0.mk (hgi.trans hv)
          clear hgi hv
          have q1 : decide (y ≤ x) = false := decide_eq_false cc
          go_upto_region 3 with (fail)
          go_quiet (fail)
          have HT := Aside0.mk (HT.out.drewN nq)
          have HTN := Aside0.mk (HTN.out.drewN nq)
          go_wp2
          go_roundg k1
          case measure => have := HK.out; omega
          case rel => exact ⟨i + 1, (by first | rw [hwi] | simp), ⟨by have := HK.out; omega⟩, ⟨by have := C2.out; omega⟩, ⟨by have := HT.out.put i 0; rw [← HV.out, fillU_step g i us (by have := HN.out; have := C2.out; omega), HV.out] at this; exact this⟩, ⟨HTN.out.setCell (p := ⟨T, i, none⟩) (.inl rfl) _⟩⟩
      · have c2b : decide ((i : Int) < (n : Int)) = false := decide_eq_false (by omega)
        have c2n : ¬ i < n := c2
        go_wp2
        go_end0
        have hi : i = n := by have := HI.out; omega
        subst hi
        exact ⟨rfl, HT.out, HTN.out⟩
set_option maxHeartbeats 1000000 in
set_option maxRecDepth 100000 in
theorem cmpAS3_calls (A1 : Option Addr) (D1 d1 n1 c1 : Nat) (xs : List Int) (y : Int) (T n c : Nat) (us : List Int) (w : World) (h1 : RowK .u64 26 w D1 xs) (hA1 : 0 < n1 → A1 = some ⟨D1, d1, none⟩) (hn1 : d1 + n1 ≤ xs.length) (hl1 : n ≤ n1) (hD1 : D1 ≠ T) (hT : RowK .u32 162 w T us) (hn : n ≤ us.length) (hm : n ≤ 32) :
    Calls Tryz.prog 55 #[.slice A1 n1 c1, .int .u64 y, .slice (some ⟨T, 0, none⟩) n c] w fun e w' => e = .returned (.tuple #[]) ∧ RowK .u32 162 w' T (fillU (fun i => cv 3 (xs.getD (d1 + i) 0) y) n us) ∧ Tn (fun k => k = T) w w' := by
  obtain ⟨g, hg⟩ : ∃ g : Nat → Int, g = (fun i => cv 3 (xs.getD (d1 + i) 0) y) := ⟨_, rfl⟩
  rw [← hg]
  have HG := Aside0.mk hg
  have H1 := Aside0.mk h1
  have CA1 := Aside0.mk (fun (W : World) (hW : RowK .u64 26 W D1 xs) (i : Nat) (hi : i < n1) => cell_at hW hA1 hn1 i hi)
  have L1 := Aside0.mk hl1
  have E1 := Aside0.mk hD1
  have HT := Aside0.mk (show RowK .u32 162 w T (fillU g 0 us) by simpa [fillU] using hT)
  have HN := Aside0.mk hn
  have HM := Aside0.mk hm
  have HTN := Aside0.mk (Tn.refl (fun k => k = T) w)
  clear h1 hA1 hn1 hl1 hD1 hT hn hm hg
  go_enter Tryz.func55, Tryz.ntmps55
  go_wp2
  go_loopg [9] (n + 1) (fun kq v9 w' => ∃ (i : Nat), v9 = .int .i64 (i : Int) ∧ Aside0 (i + kq = n + 1) ∧ Aside0 (i ≤ n) ∧ Aside0 (RowK .u32 162 w' T (fillU g i us)) ∧ Aside0 (Tn (fun k => k = T) w w'))
  case atStart => exact ⟨0, rfl, ⟨by omega⟩, ⟨by omega⟩, HT, HTN⟩
  case round =>
    clear HT HTN
    obtain ⟨i, rfl, HK, HI, HT, HTN⟩ := hrel
    cases gk with
    | zero => exact absurd HK.out (by have := HI.out; omega)
    | succ k1 =>
      by_cases c2 : i < n
      · have c2b : decide ((i : Int) < (n : Int)) = true := decide_eq_true (by omega)
        obtain ⟨ad1, rfl, hc1⟩ := CA1.out wr (H1.out.kept HTN.out.kept E1.out) i (by have := L1.out; omega)
        have u1 : (i : Int) < (n1 : Int) := by have := L1.out; omega
        have u1n : i < n1 := by have := L1.out; omega
        have hct := HT.out.cell i (by rw [fillU_len g i us (by have := HN.out; omega)]; have := HN.out; omega)
        have hft := HT.out.frozen i
        have g0 : (0 : Int) ≤ (i : Int) := by omega
        have hwi : wrap64 ((i : Int) + 1) = ((i + 1 : Nat) : Int) := by have := HM.out; unfold wrap64; omega
        have hgi : g i = cv 3 (xs.getD (d1 + i) 0) (y) := by rw [HG.out]
        generalize xs.getD (d1 + i) 0 = x at hc1 hgi
        have C2 := Aside0.mk c2
        by_cases cc : y ≤ x
        · have hv : cv 3 x y = 1 := by simp [cv, cmpB, cc]
          have HV := Aside0.mk (hgi.trans hv)
          clear hgi hv
          have q1 : decide (y ≤ x) = true := decide_eq_true cc
          go_wp2
          go_roundg k1
          case measure => have := HK.out; omega
          case rel => exact ⟨i + 1, (by first | rw [hwi] | simp), ⟨by have := HK.out; omega⟩, ⟨by have := C2.out; omega⟩, ⟨by have := HT.out.put i 1; rw [← HV.out, fillU_step g i us (by have := HN.out; have := C2.out; omega), HV.out] at this; exact this⟩, ⟨HTN.out.setCell (p := ⟨T, i, none⟩) (.inl rfl) _⟩⟩
        · have hv : cv 3 x y = 0 := by simp [cv, cmpB, cc]
          have HV := Aside0.mk (hgi.trans hv)
          clear hgi hv
          have q1 : decide (y ≤ x) = false := decide_eq_false cc
          go_wp2
          go_roundg k1
          case measure => have := HK.out; omega
          case rel => exact ⟨i + 1, (by first | rw [hwi] | simp), ⟨by have := HK.out; omega⟩, ⟨by have := C2.out; omega⟩, ⟨by have := HT.out.put i 0; rw [← HV.out, fillU_step g i us (by have := HN.out; have := C2.out; omega), HV.out] at this; exact this⟩, ⟨HTN.out.setCell (p := ⟨T, i, none⟩) (.inl rfl) _⟩⟩
      · have c2b : decide ((i : Int) < (n : Int)) = false := decide_eq_false (by omega)
        have c2n : ¬ i < n := c2
        go_wp2
        go_end0
        have hi : i = n := by have := HI.out; omega
        subst hi
        exact ⟨rfl, HT.out, HTN.out⟩
set_option maxHeartbeats 1000000 in
set_option maxRecDepth 100000 in
theorem cmpSA3_calls (x : Int) (A2 : Option Addr) (D2 d2 n2 c2 : Nat) (ys : List Int) (T n c : Nat) (us : List Int) (w : World) (h2 : RowK .u64 26 w D2 ys) (hA2 : 0 < n2 → A2 = some ⟨D2, d2, none⟩) (hn2 : d2 + n2 ≤ ys.length) (hl2 : n ≤ n2) (hD2 : D2 ≠ T) (hT : RowK .u32 162 w T us) (hn : n ≤ us.length) (hm : n ≤ 32) :
    Calls Tryz.prog 56 #[.int .u64 x, .slice A2 n2 c2, .slice (some ⟨T, 0, none⟩) n c] w fun e w' => e = .returned (.tuple #[]) ∧ RowK .u32 162 w' T (fillU (fun i => cv 3 x (ys.getD (d2 + i) 0)) n us) ∧ Tn (fun k => k = T) w w' := by
  obtain ⟨g, hg⟩ : ∃ g : Nat → Int, g = (fun i => cv 3 x (ys.getD (d2 + i) 0)) := ⟨_, rfl⟩
  rw [← hg]
  have HG := Aside0.mk hg
  have H2 := Aside0.mk h2
  have CA2 := Aside0.mk (fun (W : World) (hW : RowK .u64 26 W D2 ys) (i : Nat) (hi : i < n2) => cell_at hW hA2 hn2 i hi)
  have L2 := Aside0.mk hl2
  have E2 := Aside0.mk hD2
  have HT := Aside0.mk (show RowK .u32 162 w T (fillU g 0 us) by simpa [fillU] using hT)
  have HN := Aside0.mk hn
  have HM := Aside0.mk hm
  have HTN := Aside0.mk (Tn.refl (fun k => k = T) w)
  clear h2 hA2 hn2 hl2 hD2 hT hn hm hg
  go_enter Tryz.func56, Tryz.ntmps56
  go_wp2
  go_loopg [9] (n + 1) (fun kq v9 w' => ∃ (i : Nat), v9 = .int .i64 (i : Int) ∧ Aside0 (i + kq = n + 1) ∧ Aside0 (i ≤ n) ∧ Aside0 (RowK .u32 162 w' T (fillU g i us)) ∧ Aside0 (Tn (fun k => k = T) w w'))
  case atStart => exact ⟨0, rfl, ⟨by omega⟩, ⟨by omega⟩, HT, HTN⟩
  case round =>
    clear HT HTN
    obtain ⟨i, rfl, HK, HI, HT, HTN⟩ := hrel
    cases gk with
    | zero => exact absurd HK.out (by have := HI.out; omega)
    | succ k1 =>
      by_cases c2 : i < n
      · have c2b : decide ((i : Int) < (n : Int)) = true := decide_eq_true (by omega)
        obtain ⟨ad2, rfl, hc2⟩ := CA2.out wr (H2.out.kept HTN.out.kept E2.out) i (by have := L2.out; omega)
        have u2 : (i : Int) < (n2 : Int) := by have := L2.out; omega
        have u2n : i < n2 := by have := L2.out; omega
        have hct := HT.out.cell i (by rw [fillU_len g i us (by have := HN.out; omega)]; have := HN.out; omega)
        have hft := HT.out.frozen i
        have g0 : (0 : Int) ≤ (i : Int) := by omega
        have hwi : wrap64 ((i : Int) + 1) = ((i + 1 : Nat) : Int) := by have := HM.out; unfold wrap64; omega
        have hgi : g i = cv 3 (x) (ys.getD (d2 + i) 0) := by rw [HG.out]
        generalize ys.getD (d2 + i) 0 = y at hc2 hgi
        have C2 := Aside0.mk c2
        by_cases cc : y ≤ x
        · have hv : cv 3 x y = 1 := by simp [cv, cmpB, cc]
          have HV := Aside0.mk (hgi.trans hv)
          clear hgi hv
          have q1 : decide (y ≤ x) = true := decide_eq_true cc
          go_wp2
          go_roundg k1
          case measure => have := HK.out; omega
          case rel => exact ⟨i + 1, (by first | rw [hwi] | simp), ⟨by have := HK.out; omega⟩, ⟨by have := C2.out; omega⟩, ⟨by have := HT.out.put i 1; rw [← HV.out, fillU_step g i us (by have := HN.out; have := C2.out; omega), HV.out] at this; exact this⟩, ⟨HTN.out.setCell (p := ⟨T, i, none⟩) (.inl rfl) _⟩⟩
        · have hv : cv 3 x y = 0 := by simp [cv, cmpB, cc]
          have HV := Aside0.mk (hgi.trans hv)
          clear hgi hv
          have q1 : decide (y ≤ x) = false := decide_eq_false cc
          go_wp2
          go_roundg k1
          case measure => have := HK.out; omega
          case rel => exact ⟨i + 1, (by first | rw [hwi] | simp), ⟨by have := HK.out; omega⟩, ⟨by have := C2.out; omega⟩, ⟨by have := HT.out.put i 0; rw [← HV.out, fillU_step g i us (by have := HN.out; have := C2.out; omega), HV.out] at this; exact this⟩, ⟨HTN.out.setCell (p := ⟨T, i, none⟩) (.inl rfl) _⟩⟩
      · have c2b : decide ((i : Int) < (n : Int)) = false := decide_eq_false (by omega)
        have c2n : ¬ i < n := c2
        go_wp2
        go_end0
        have hi : i = n := by have := HI.out; omega
        subst hi
        exact ⟨rfl, HT.out, HTN.out⟩
end Go.Proofs.YtgccaabpckfhlaaGreatDoor.Q
