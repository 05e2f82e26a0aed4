/- GetAt, GetData. -/
import Derived.Test.YtgccaabpckfhlaaGreatDoorZd
namespace Go.Proofs.YtgccaabpckfhlaaGreatDoor.Q
open Go.RowKit Go.Proofs.YtgccaabpckfhlaaGreatDoorW.PrintWords Go.Proofs.YtgccaabpckfhlaaGreatDoorW.PrintLast Go.Proofs.YtgccaabpckfhlaaGreatDoorW.PrintMore
set_option linter.unusedVariables false
set_option linter.unusedSimpArgs false
set_option maxHeartbeats 1000000 in
set_option maxRecDepth 100000 in
theorem getOne_calls (X o c : Nat) (l : List Int) (x : Int) (w : World) (h : Row w X l) (hl : (l.drop o).take 8 = le8 x) (h0 : 0 ≤ x) (h1 : x < 18446744073709551616) :
    Calls Tryz.prog 79 #[.slice (some ⟨X, o, none⟩) 8 c] w fun e w' => e = .returned (.int .u64 x) ∧ Below w.heap.size w w' := by
  obtain ⟨z79, h79⟩ := as78_79 (.pointer (some ⟨w.heap.size, 0, none⟩))
  obtain ⟨z80, h80⟩ := as78_80 (.pointer (some ⟨w.heap.size, 0, none⟩))
  obtain ⟨z81, h81⟩ := as78_81 (.pointer (some ⟨w.heap.size, 0, none⟩))
  obtain ⟨z82, h82⟩ := as78_82 (.pointer (some ⟨w.heap.size, 0, none⟩))
  obtain ⟨z83, h83⟩ := as78_83 (.pointer (some ⟨w.heap.size, 0, none⟩))
  obtain ⟨z84, h84⟩ := as78_84 (.pointer (some ⟨w.heap.size, 0, none⟩))
  obtain ⟨z85, h85⟩ := as78_85 (.pointer (some ⟨w.heap.size, 0, none⟩))
  obtain ⟨z86, h86⟩ := as78_86 (.pointer (some ⟨w.heap.size, 0, none⟩))
  obtain ⟨z87, h87⟩ := as78_87 (.pointer (some ⟨w.heap.size, 0, none⟩))
  obtain ⟨z88, h88⟩ := as78_88 (.pointer (some ⟨w.heap.size, 0, none⟩))
  obtain ⟨z89, h89⟩ := as78_89 (.pointer (some ⟨w.heap.size, 0, none⟩))
  obtain ⟨z90, h90⟩ := as78_90 (.pointer (some ⟨w.heap.size, 0, none⟩))
  obtain ⟨z91, h91⟩ := as78_91 (.pointer (some ⟨w.heap.size, 0, none⟩))
  have h78 := as78_78 (.pointer (some ⟨w.heap.size, 0, none⟩))
  have HP := Aside0.mk (fun W (hW : Row W X l) => getU64_calls X o c l x W hW hl h0 h1)
  have H := Aside0.mk ((h.alloc (.cells #[.int .u64 0] 26)))
  clear h h0 h1 hl
  go_enter Tryz.func79, Tryz.ntmps79
  have hb0 : Below w.heap.size w (w.alloc (.cells #[.int .u64 0] 26)) := below_alloc (Below.refl _ w) (.cells #[.int .u64 0] 26)
  have hc : (w.alloc (.cells #[.int .u64 0] 26)).heap[w.heap.size]? = some (.cells #[.int .u64 0] 26 (0, 0)) := blk_new w _
  have HB := Aside0.mk hb0
  have HC := Aside0.mk hc
  clear hb0 hc
  go_wp2_with (first | (go_at_call 87; generalize (w.alloc (.cells #[.int .u64 0] 26)) = wa at H HB HC ⊢; refine (HP.out wa H.out).mono ?_; rintro e w1 ⟨rfl, e1⟩; have e2 : w1.cell? ⟨w.heap.size, 0, none⟩ = some (.int .u64 0) := (blk_cell (blk_below HC.out e1) 0).trans rfl; have e3 : w1.frozen? ⟨w.heap.size, 0, none⟩ = false := blk_frozen (blk_below HC.out e1) 0; have E1 := Aside0.mk e1; clear e1))
  go_ret
  exact ⟨rfl, Below.setCell (p := ⟨w.heap.size, 0, none⟩) (HB.out.trans (E1.out.mono HB.out.size)) (Nat.le_refl _) _⟩
set_option maxHeartbeats 1000000 in
set_option maxRecDepth 100000 in
theorem getAt_calls (X n i : Nat) (l : List Int) (x : Int) (w : World) (h : Row w X l) (hl : (l.drop (8 * i)).take 8 = le8 x) (hi : 8 * i + 8 ≤ n) (hm : n ≤ 16777216) (h0 : 0 ≤ x) (h1 : x < 18446744073709551616) :
    Calls Tryz.prog 69 #[.slice (some ⟨X, 0, none⟩) n n, .int .i64 (i : Int)] w fun e w' => e = .returned (.int .u64 x) ∧ Below w.heap.size w w' := by
  have HS := Aside0.mk (sizeOf_calls w)
  have hsl := sliceAt_b X (i * 8) (i * 8 + 8) n (by omega) (by omega) hm
  rw [show i * 8 + 8 - i * 8 = 8 by omega, show ((i * 8 + 8 : Nat) : Int) = (i : Int) * 8 + 8 by omega, show ((i * 8 : Nat) : Int) = (i : Int) * 8 by omega] at hsl
  have HP := Aside0.mk (fun W (hW : Row W X l) => getOne_calls X (i * 8) (n - i * 8) l x W hW (by rw [Nat.mul_comm]; exact hl) h0 h1)
  have H := Aside0.mk h
  have h8 : (0 : Int) ≤ (i : Int) * 8 := by omega
  have h9 : (i : Int) * 8 ≤ 16777216 := by omega
  clear h h0 h1 hi hl
  go_enter Tryz.func69, Tryz.ntmps69
  go_wp2_with (first | (go_at_call 22; refine HS.out.mono ?_; rintro e w1 ⟨rfl, hb⟩; have HB := Aside0.mk hb; have H1 := Aside0.mk (RowK.below H.out hb); clear hb) | (go_at_call 79; refine (HP.out w1 H1.out).mono ?_; rintro e w2 ⟨rfl, e1⟩; have E := Aside0.mk e1; clear e1))
  go_ret
  exact ⟨rfl, HB.out.trans (E.out.mono HB.out.size)⟩
theorem drop8 (xs : List Int) : ∀ i, i < xs.length → ((xs.flatMap le8).drop (8 * i)).take 8 = le8 (xs.getD i 0) := by
  induction xs with
  | nil => intro i hi; simp at hi
  | cons x t ih =>
    intro i hi
    cases i with
    | zero => simp [le8]
    | succ i =>
      rw [show 8 * (i + 1) = 8 + 8 * i by omega, ← List.drop_drop, List.flatMap_cons, List.drop_append_of_le_length (by simp [le8]), show (le8 x).drop 8 = [] by simp [le8], List.nil_append, List.getD_cons_succ]
      exact ih i (by simpa using hi)
theorem set_take (xs ys : List Int) (i : Nat) (h : i < xs.length) (hy : ys = xs.take i ++ List.replicate (xs.length - i) 0) : ys.set i (xs.getD i 0) = xs.take (i + 1) ++ List.replicate (xs.length - (i + 1)) 0 := by
  subst hy
  have e1 : xs.take (i + 1) = xs.take i ++ [xs.getD i 0] := by rw [List.take_add_one, List.getD_eq_getElem?_getD, List.getElem?_eq_getElem h]; rfl
  rw [e1, List.set_append_right _ _ (by simp; omega)]
  have e2 : i - (xs.take i).length = 0 := by simp; omega
  rw [e2, show xs.length - i = (xs.length - (i + 1)) + 1 by omega, List.replicate_succ]
  simp
set_option maxHeartbeats 1000000 in
set_option maxRecDepth 100000 in
theorem getData_calls (X : Nat) (xs : List Int) (w : World) (h : Row w X (xs.flatMap le8)) (hm : xs.length ≤ 1048576) (hx : ∀ x ∈ xs, 0 ≤ x ∧ x < 18446744073709551616) :
    Calls Tryz.prog 65 #[.slice (some ⟨X, 0, none⟩) (8 * xs.length) (8 * xs.length)] w fun e w' => ∃ D, e = .returned (.slice (some ⟨D, 0, none⟩) xs.length xs.length) ∧ w.heap.size ≤ D ∧ RowK .u64 26 w' D xs ∧ Below w.heap.size w w' := by
  have HS := Aside0.mk (sizeOf_calls w)
  have HP := Aside0.mk (fun (i : Nat) (hi : i < xs.length) W (hW : Row W X (xs.flatMap le8)) => getAt_calls X (8 * xs.length) i (xs.flatMap le8) (xs.getD i 0) W hW (drop8 xs i hi) (by omega) (by omega) (by
    rw [List.getD_eq_getElem?_getD, List.getElem?_eq_getElem hi]; exact (hx _ (List.getElem_mem hi)).1) (by
    rw [List.getD_eq_getElem?_getD, List.getElem?_eq_getElem hi]; exact (hx _ (List.getElem_mem hi)).2))
  have hmk := make_u64 xs.length (by omega)
  have hq : wrap64 (xs.length : Int) = (xs.length : Int) := by unfold wrap64; omega
  have H := Aside0.mk h
  have HM := Aside0.mk hm
  have hg : (0 : Int) ≤ 8 * (xs.length : Int) := by omega
  clear h hm hx
  go_enter Tryz.func65, Tryz.ntmps65
  go_wp2_with (first | (go_at_call 22; refine HS.out.mono ?_; rintro e w1 ⟨rfl, hb⟩; have HB := Aside0.mk hb; have H1 := Aside0.mk (RowK.below H.out hb); clear hb))
  clear hmk hq hg
  obtain ⟨D, hD⟩ : ∃ D, D = w1.heap.size := ⟨_, rfl⟩
  have hz := row_zeros .u64 26 w1 xs.length
  have hb0 : Below w.heap.size w (w1.alloc (zerosK .u64 26 xs.length)) := HB.out.trans ((below_alloc (Below.refl _ w1) (zerosK .u64 26 xs.length)).mono HB.out.size)
  have hx0 : Row (w1.alloc (zerosK .u64 26 xs.length)) X (xs.flatMap le8) := H1.out.alloc _
  have hXD : X ≠ w1.heap.size := by have := H1.out.lt; omega
  have hwD := HB.out.size
  rw [← hD] at hXD hz hwD ⊢
  have HZ := Aside0.mk (show RowK .u64 26 (w1.alloc (zerosK .u64 26 xs.length)) D (xs.take 0 ++ List.replicate (xs.length - 0) 0) by simpa using hz)
  have HBB := Aside0.mk hb0
  have HXX := Aside0.mk hx0
  have HXD := Aside0.mk hXD
  have HWD := Aside0.mk hwD
  clear hz hb0 hx0 hXD hD H hwD
  generalize w1.alloc (zerosK .u64 26 xs.length) = w2 at HZ HBB HXX ⊢
  clear HB H1 HS
  go_loopg [12] (xs.length + 1) (fun kq v12 w' => ∃ (i : Nat), v12 = .int .i64 (i : Int) ∧ Aside0 (i + kq = xs.length + 1) ∧ Aside0 (i ≤ xs.length) ∧ Aside0 (RowK .u64 26 w' D (xs.take i ++ List.replicate (xs.length - i) 0)) ∧ Aside0 (Below w.heap.size w w') ∧ Aside0 (Row w' X (xs.flatMap le8)))
  case atStart => exact ⟨0, rfl, ⟨by omega⟩, ⟨by omega⟩, HZ, HBB, HXX⟩
  case round =>
    clear HZ HBB HXX
    obtain ⟨i, rfl, HK, HI, HL, HBB, HXX⟩ := hrel
    cases gk with
    | zero => exact absurd HK.out (by have := HI.out; omega)
    | succ k1 =>
      by_cases c2 : (i : Int) < (xs.length : Int)
      · have c2b : decide ((i : Int) < (xs.length : Int)) = true := decide_eq_true c2
        have hil : i < xs.length := by omega
        have HPP := Aside0.mk (HP.out i hil wr HXX.out)
        have g0 : (0 : Int) ≤ (i : Int) := by omega
        have HIL := Aside0.mk hil
        have hwi : wrap64 ((i : Int) + 1) = ((i + 1 : Nat) : Int) := by have := HM.out; unfold wrap64; omega
        clear HP
        go_wp2_with (first | (go_at_call 69; refine HPP.out.mono ?_; rintro e w3 ⟨rfl, e1⟩; have h2 := RowK.below HL.out e1; have hc := RowK.cell h2 i (by have := HIL.out; simp; omega); have hf := RowK.frozen h2 i; have H2 := Aside0.mk h2; have E1 := Aside0.mk e1; have H3 := Aside0.mk (RowK.below HXX.out e1); clear e1 h2 HPP))
        go_roundg k1
        case measure => have := HK.out; omega
        case rel => exact ⟨i + 1, (by rw [hwi]), ⟨by have := HK.out; omega⟩, ⟨by have := HIL.out; omega⟩, ⟨by have := H2.out.put i (xs.getD i 0); rw [set_take xs _ i HIL.out rfl, show xs.getD i 0 = xs[i]'HIL.out by simp [HIL.out]] at this; exact this⟩, ⟨Below.setCell (p := ⟨D, i, none⟩) (HBB.out.trans (E1.out.mono HBB.out.size)) HWD.out _⟩, ⟨blk_far H3.out (p := ⟨D, i, none⟩) HXD.out _⟩⟩
      · have c2b : decide ((i : Int) < (xs.length : Int)) = false := decide_eq_false c2
        go_wp2
        go_ret
        have hi : i = xs.length := by have := HI.out; omega
        refine ⟨D, rfl, HWD.out, ?_, HBB.out⟩
        have := HL.out
        rw [hi] at this
        simpa using this
end Go.Proofs.YtgccaabpckfhlaaGreatDoor.Q
