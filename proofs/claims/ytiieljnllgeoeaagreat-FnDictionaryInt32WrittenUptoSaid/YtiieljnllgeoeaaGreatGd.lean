/- The writer of runs: eight numbers that wait, written. -/
import Derived.Test.YtiieljnllgeoeaaGreatGc
namespace Go.Proofs.YtiieljnllgeoeaaGreat.Q
open Go.RowKit Go.Proofs.YtiieljnllgeoeaaGreatW.PrintWords Go.Proofs.YtiieljnllgeoeaaGreatW.PrintLast Go.Proofs.YtiieljnllgeoeaaGreatW.PrintMore
set_option linter.unusedVariables false
set_option linter.unusedSimpArgs false
/-- The writer of runs, with its state told plainly. -/
def Rl (w : World) (lo R W Q wd : Nat) (S : Sk) (e : RE) : Prop := ∃ off, Ob w lo R W Q wd e.bf e.cur e.rep e.L.length off ∧ Str w lo W S wd e.dn e.L off ∧ S.n ≤ 16777216
theorem Ob.strR {w : World} {lo R W Q wd cur rep lit : Nat} {bf L : List Nat} {dn : List Int} {off o : Int} {S : Sk} (h : Ob w lo R W Q wd bf cur rep lit off) (s : Str w lo W S wd dn L o) (j : Nat) (v : Value) : Str (w.setCell ⟨R, j, none⟩ v) lo W S wd dn L o := by
 rcases s with ⟨a1, a2, pre, N, bits, a3, a4⟩ | ⟨a1, a2, a3⟩
 ·exact .inl ⟨a1, a2, pre, N, bits, h.stR a3 j v, a4⟩
 ·exact .inr ⟨a1, a2, h.stR a3 j v⟩
theorem Ob.strQ {w : World} {lo R W Q wd cur rep lit : Nat} {bf L : List Nat} {dn : List Int} {off o : Int} {S : Sk} (h : Ob w lo R W Q wd bf cur rep lit off) (s : Str w lo W S wd dn L o) (j : Nat) (v : Value) : Str (w.setCell ⟨Q, j, none⟩ v) lo W S wd dn L o := by
 rcases s with ⟨a1, a2, pre, N, bits, a3, a4⟩ | ⟨a1, a2, a3⟩
 ·exact .inl ⟨a1, a2, pre, N, bits, h.stQ a3 j v, a4⟩
 ·exact .inr ⟨a1, a2, h.stQ a3 j v⟩
theorem Str.drew {w : World} {lo W wd : Nat} {L : List Nat} {dn : List Int} {o : Int} {S : Sk} (s : Str w lo W S wd dn L o) : Str w.drew lo W S wd dn L o := by
 rcases s with ⟨a1, a2, pre, N, bits, a3, a4⟩ | ⟨a1, a2, a3⟩
 ·exact .inl ⟨a1, a2, pre, N, bits, a3.drew, a4⟩
 ·exact .inr ⟨a1, a2, a3.drew⟩
theorem Str.alloc {w : World} {lo W wd : Nat} {L : List Nat} {dn : List Int} {o : Int} {S : Sk} (s : Str w lo W S wd dn L o) (ob : Obj) : Str (w.alloc ob) lo W S wd dn L o := by
 rcases s with ⟨a1, a2, pre, N, bits, a3, a4⟩ | ⟨a1, a2, a3⟩
 ·exact .inl ⟨a1, a2, pre, N, bits, a3.alloc ob, a4⟩
 ·exact .inr ⟨a1, a2, a3.alloc ob⟩
theorem Rl.drew {w : World} {lo R W Q wd : Nat} {S : Sk} {e : RE} (h : Rl w lo R W Q wd S e) : Rl w.drew lo R W Q wd S e := by
 obtain ⟨off, a, b, c⟩ := h
 exact ⟨off, a.drew, b.drew, c⟩
theorem w32n (n : Nat) (h : n < 1000000) : wrap32 (n : Int) = (n : Int) := by unfold wrap32; omega
theorem w32a (n k : Nat) (h : n + k < 1000000) : wrap32 ((n : Int) + (k : Int)) = ((n + k : Nat) : Int) := by unfold wrap32; omega
theorem i32n (n : Nat) (h : n < 1000000) : IntKind.i32.wrap (n : Int) = (n : Int) := by simp [IntKind.wrap, IntKind.bits, IntKind.signed]; omega
theorem i32a (n k : Nat) (h : n + k < 1000000) : IntKind.i32.wrap ((n : Int) + (k : Int)) = ((n + k : Nat) : Int) := by simp [IntKind.wrap, IntKind.bits, IntKind.signed]; omega
theorem w32b (n : Nat) (h : n + 1 < 1000000) : wrap32 ((n : Int) + 1) = ((n + 1 : Nat) : Int) := w32a n 1 h
theorem i32b (n : Nat) (h : n + 1 < 1000000) : IntKind.i32.wrap ((n : Int) + 1) = ((n + 1 : Nat) : Int) := i32a n 1 h
theorem tdiv8 (g : Nat) : Int.tdiv ((8 * g : Nat) : Int) 8 = (g : Int) := by rw [Int.tdiv_eq_ediv_of_nonneg (by omega)]; omega
set_option maxHeartbeats 4000000 in
set_option maxRecDepth 100000 in
theorem full_calls {w : World} {lo R W Q wd : Nat} {S : Sk} {e : RE} (h : Rl w lo R W Q wd S e) (hx : ∀ x ∈ e.bf, x < 2 ^ wd) (hwd : wd ≤ 32) (h8 : e.L.length % 8 = 0) (hl : e.L.length ≤ 496) (hb : e.bf.length = 8) (hrep : e.rep < 1048576) (hroom : e.dn.length + 1 + wd * (e.L ++ e.bf).length / 8 ≤ S.n) :
  Calls Tryz.prog 80 #[.pointer (some ⟨R, 0, none⟩), .bool false] w fun x w' => x = .returned .nilIface ∧ Rl w' lo R W Q wd S (e.full wd) ∧ FrE lo w w' := by
 obtain ⟨off, h, hs, hn⟩ := h
 have r4 := h.c4
 by_cases c : 8 ≤ e.rep
 ·have hd : decide ((e.rep : Int) ≥ 8) = true := decide_eq_true (by omega)
  have hfull : e.full wd = ({ e with bf := [] } : RE).shut wd := by unfold RE.full; rw [if_pos c]
  rw [hfull]
  have r1 := h.c1
  have z1 := h.f 1
  have r5 := h.c5
  have hs0 := slice_q0 Q e.bf.length 8
  have o1 := h.s1
  have s1 := h.strR hs 1 (.slice (some ⟨Q, 0, none⟩) 0 8)
  have f1 := h.setR 1 (.slice (some ⟨Q, 0, none⟩) 0 8)
  by_cases cL : e.L = []
  ·have hsh : ({ e with bf := [] } : RE).shut wd = { e with bf := [] } := by unfold RE.shut; rw [if_pos cL]
   rw [hsh]
   have r5 : w.cell? ⟨R, 5, none⟩ = some (.int .i32 0) := by rw [r5, cL]; rfl
   have O1 := Aside0.mk (And.intro o1 (And.intro s1 (And.intro f1 hn)))
   clear h hs hx hwd h8 hl hb hrep hroom hn o1 s1 f1 hfull hsh c
   go_enter Tryz.func80, Tryz.ntmps80
   go_wp2
   go_ret
   exact ⟨rfl, ⟨off, O1.out.1, O1.out.2.1, O1.out.2.2.2⟩, O1.out.2.2.1⟩
  ·have hsh : ({ e with bf := [] } : RE).shut wd = { e with bf := [], dn := e.dn ++ pk wd e.L, L := [] } := by unfold RE.shut; rw [if_neg cL]
   rw [hsh]
   have hlp : 0 < e.L.length := List.length_pos_iff.2 cL
   have hd5 : ((e.L.length : Int) != 0) = true := bne_iff_ne.mpr (by omega)
   have hd6 : ((e.L.length : Int) == 0) = false := beq_eq_false_iff_ne.mpr (by omega)
   have hd7 : decide ((e.L.length : Int) = 0) = false := decide_eq_false (by omega)
   have HC := Aside0.mk (lit_calls true o1 s1 (by simp) hwd (by simp) (by simpa using h8) (by simpa using hlp) (by simp; omega) (by
    have h2 : wd * (e.L ++ []).length / 8 ≤ wd * (e.L ++ e.bf).length / 8 := Nat.div_le_div_right (Nat.mul_le_mul_left _ (by simp))
    omega) hn)
   simp only [if_true, List.append_nil] at HC
   have F1 := Aside0.mk (And.intro f1 hn)
   clear h hs hx hwd h8 hl hb hrep hroom hn o1 s1 f1 hfull hsh c hlp
   go_enter Tryz.func80, Tryz.ntmps80
   go_wp2_with (first | (go_at_call 81; go_loud (with_reducible refine HC.out.mono ?_; rintro x w1 ⟨rfl, ⟨o2, s2⟩, f2⟩; have O2 := Aside0.mk (And.intro o2 (And.intro s2 f2)); clear o2 s2 f2)))
   go_ret
   exact ⟨rfl, ⟨-1, O2.out.1, O2.out.2.1, F1.out.2⟩, F1.out.1.trans O2.out.2.2⟩
 ·have hd : decide ((e.rep : Int) ≥ 8) = false := decide_eq_false (by omega)
  obtain ⟨g, hg⟩ : ∃ g, e.L.length = 8 * g := ⟨e.L.length / 8, by omega⟩
  have hlen : (e.L ++ e.bf).length = e.L.length + 8 := by rw [List.length_append, hb]
  have r1 := h.c1
  rw [hb] at r1
  have r5 := h.c5
  have z5 := h.f 5
  have o1 := (h.s5 (e.L.length + 8)).drew
  have s1 := (h.strR hs 5 (.int .i32 ((e.L.length + 8 : Nat) : Int))).drew
  have f1 := FrE.trans (h.setR 5 (.int .i32 ((e.L.length + 8 : Nat) : Int))) (FrE.drew (FrE.refl _ _))
  have hfull : e.full wd = { (if 64 ≤ e.lit.L.length / 8 + 1 then e.lit.shut wd else e.lit) with rep := 0 } := by unfold RE.full; rw [if_neg c]
  have hlitL : e.lit.L = e.L ++ e.bf := rfl
  have hne : e.L ++ e.bf ≠ [] := fun q => by rw [q] at hlen; simp at hlen
  have HC := Aside0.mk (fun u => lit_calls u o1 s1 hx hwd (by rw [hlen]) (by rw [hlen]; omega) (by rw [hlen]; omega) (by rw [hlen]; omega) hroom hn)
  have b1 : e.L.length + 8 < 1000000 := by omega
  have b2 : g + 1 + 1 < 1000000 := by omega
  have b3 : e.L.length + 8 = 8 * (g + 1) := by omega
  by_cases q : 64 ≤ g + 1 + 1
  ·have hsh : e.full wd = { e with dn := e.dn ++ pk wd (e.L ++ e.bf), L := [], bf := [], rep := 0 } := by
    rw [hfull, if_pos (by rw [hlitL, hlen]; omega)]
    unfold RE.shut
    rw [hlitL, if_neg hne]
    rfl
   rw [hsh]
   have F1 := Aside0.mk (And.intro f1 hn)
   have hd2 : decide (((g + 1 + 1 : Nat) : Int) ≥ 64) = true := decide_eq_true (by omega)
   clear h hs hx hwd h8 hl hb hrep hroom hn s1 f1 hfull c hlen hne hlitL hg q
   have x5 := o1.c5
   clear o1
   rw [b3] at x5 HC F1 b1
   have HSUM := Aside0.mk (w32a e.L.length 8 (by rw [b3]; exact b1))
   rw [b3] at HSUM
   clear b3
   have hq := tdiv8 (g + 1)
   have hw1 := i32n (g + 1) (Nat.lt_of_succ_lt b2)
   have hw2 := i32b (g + 1) b2
   have hw3 := w32n (g + 1) (Nat.lt_of_succ_lt b2)
   have hw4 := w32b (g + 1) b2
   generalize g + 1 + 1 = g2 at hw2 hw4 hd2
   generalize 8 * (g + 1) = l8 at x5 HC F1 hq HSUM
   generalize g + 1 = g1 at hq hw1 hw2 hw3 hw4
   go_enter Tryz.func80, Tryz.ntmps80
   go_upto_region 5 with (fail)
   go_still_tail 12, (by kernel_rfl)
   change wpList _ _ _ _ _ w.drew
   go_upto_region 6 with (fail)
   rw [show wrap32 ((e.L.length : Int) + 8) = (l8 : Int) from HSUM.out]
   have HCT := Aside0.mk (HC.out true)
   simp only [if_true] at HCT
   clear HC
   go_wp2_with (first | (go_at_call 81; go_loud (with_reducible refine HCT.out.mono ?_; rintro x w1 ⟨rfl, ⟨o2, s2⟩, f2⟩; have z4 := o2.c4; have v4 := o2.f 4; have O2 := Aside0.mk o2; have S2 := Aside0.mk (And.intro s2 f2); clear o2 s2 f2)))
   go_ret
   exact ⟨rfl, ⟨-1, O2.out.z4, O2.out.strR S2.out.1 4 _, F1.out.2⟩, (F1.out.1.trans S2.out.2).trans (O2.out.setR 4 _)⟩
  ·have hsh : e.full wd = { e with L := e.L ++ e.bf, bf := [], rep := 0 } := by
    rw [hfull, if_neg (by rw [hlitL, hlen]; omega)]
    rfl
   rw [hsh]
   have F1 := Aside0.mk (And.intro f1 hn)
   have hd2 : decide (((g + 1 + 1 : Nat) : Int) ≥ 64) = false := decide_eq_false (by omega)
   clear h hs hx hwd h8 hl hb hrep hroom hn s1 f1 hfull c hne hlitL hg q
   have x5 := o1.c5
   clear o1
   rw [b3] at x5 HC F1 b1
   have HSUM := Aside0.mk (w32a e.L.length 8 (by rw [b3]; exact b1))
   rw [b3] at HSUM
   have HL8 : Aside0 ((e.L ++ e.bf).length = 8 * (g + 1)) := ⟨hlen.trans b3⟩
   clear b3 hlen
   have hq := tdiv8 (g + 1)
   have hw1 := i32n (g + 1) (Nat.lt_of_succ_lt b2)
   have hw2 := i32b (g + 1) b2
   have hw3 := w32n (g + 1) (Nat.lt_of_succ_lt b2)
   have hw4 := w32b (g + 1) b2
   generalize g + 1 + 1 = g2 at hw2 hw4 hd2
   generalize 8 * (g + 1) = l8 at x5 HC F1 hq HSUM HL8
   generalize g + 1 = g1 at hq hw1 hw2 hw3 hw4
   go_enter Tryz.func80, Tryz.ntmps80
   go_upto_region 5 with (fail)
   go_still_tail 12, (by kernel_rfl)
   change wpList _ _ _ _ _ w.drew
   go_upto_region 6 with (fail)
   rw [show wrap32 ((e.L.length : Int) + 8) = (l8 : Int) from HSUM.out]
   have HCT := Aside0.mk (HC.out false)
   simp only [Bool.false_eq_true, if_false] at HCT
   clear HC
   go_wp2_with (first | (go_at_call 81; go_loud (with_reducible refine HCT.out.mono ?_; rintro x w1 ⟨rfl, ⟨o2, s2⟩, f2⟩; have z4 := o2.c4; have v4 := o2.f 4; have O2 := Aside0.mk o2; have S2 := Aside0.mk (And.intro s2 f2); clear o2 s2 f2)))
   go_ret
   have o3 := O2.out.z4
   rw [← HL8.out] at o3
   exact ⟨rfl, ⟨_, o3, O2.out.strR S2.out.1 4 _, F1.out.2⟩, (F1.out.1.trans S2.out.2).trans (O2.out.setR 4 _)⟩
end Go.Proofs.YtiieljnllgeoeaaGreat.Q
