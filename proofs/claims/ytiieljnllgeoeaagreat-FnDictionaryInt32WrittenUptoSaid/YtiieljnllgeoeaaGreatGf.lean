/- The writer of runs: its end. -/
import Derived.Test.YtiieljnllgeoeaaGreatGe
namespace Go.Proofs.YtiieljnllgeoeaaGreat.Q
open Go.RowKit Go.Proofs.YtiieljnllgeoeaaGreatW.PrintWords Go.Proofs.YtiieljnllgeoeaaGreatW.PrintLast Go.Proofs.YtiieljnllgeoeaaGreatW.PrintMore
set_option linter.unusedVariables false
set_option linter.unusedSimpArgs false
set_option maxHeartbeats 2000000 in
set_option maxRecDepth 100000 in
theorem written2_calls {w : World} {W : Nat} {i : Value} {buf : Int} {byo bto : Nat} {rs : List Int} (h : Bw w W i buf byo bto rs) (hl : byo ≤ 16777216) (ht : bto < 64) :
  Calls Tryz.prog 83 #[.pointer (some ⟨W, 0, none⟩)] w fun e w' => e = .returned (.int .i64 ((byo + (bto + 7) / 8 : Nat) : Int)) ∧ ∃ m, w' = w.drewN m := by
 have r2 := h.c2
 have r3 := h.c3
 have hn : (bto + 7) / 8 ≤ 8 := by omega
 have HB := Aside0.mk (fun d => (bfb_calls bto (by omega) (w.drewN d)).mono (fun e w' hh => (⟨hh.1, d, hh.2⟩ : e = .returned (.int .i64 (((bto + 7) / 8 : Nat) : Int)) ∧ ∃ m, w' = w.drewN m)))
 generalize (bto + 7) / 8 = n at HB hn ⊢
 have hw2 : IntKind.i64.wrap ((byo : Int) + (n : Int)) = ((byo + n : Nat) : Int) := by rw [IntKind.wrap_i64]; omega
 have hw : wrap64 ((byo : Int) + (n : Int)) = ((byo + n : Nat) : Int) := by unfold wrap64; omega
 clear h hn hl
 go_enter Tryz.func83, Tryz.ntmps83
 go_wp2
 go_quiet (first | (go_at_call 75; exact HB.out _))
 go_wp2
 go_ret
 first | exact ⟨rfl, _, rfl⟩ | exact ⟨by rw [hw], _, rfl⟩
/-- What is waiting, written at the end. -/
theorem st_flushf {w : World} {lo W : Nat} {S : Sk} {pre : List Int} {N bits : Nat} (h : St w lo W S pre N bits) (hl : pre.length + (bits + 7) / 8 ≤ S.n) :
  Calls Tryz.prog 82 #[.pointer (some ⟨W, 0, none⟩), .bool false] w fun e w' => e = .returned (.tuple #[]) ∧ (∃ byo buf bto rs, Bs w' lo W S (pre ++ toB ((bits + 7) / 8) N) byo buf bto rs ∧ bto < 64 ∧ byo ≤ 16777216 ∧ byo + (bto + 7) / 8 = (pre ++ toB ((bits + 7) / 8) N).length) ∧ Fr lo w w' := by
 obtain ⟨hN, rs, hb⟩ := h
 have hlen := thr_len pre N bits
 have hft := full_thr (N := N) (bits := bits) pre
 have hfl := full_len (thr pre N bits) (N / 2 ^ (64 * (bits / 64))) (bits % 64)
 have h3 := hb.2.2.2.1
 have h4 := hb.2.2.2.2.1
 refine (flushf_calls hb (wait_64 hN) (Nat.mod_lt _ (by omega)) (by omega)).mono ?_
 rintro e w' ⟨he, ⟨rs', b1⟩, f1⟩
 rw [show thr pre N bits ++ toB ((bits % 64 + 7) / 8) (N / 2 ^ (64 * (bits / 64))) = full (thr pre N bits) (N / 2 ^ (64 * (bits / 64))) (bits % 64) from rfl, hft] at b1
 rw [hft] at hfl
 exact ⟨he, ⟨_, _, _, _, b1, Nat.mod_lt _ (by omega), by omega, hfl.symm⟩, f1⟩
theorem pad8_is (l : List Nat) (h : l.length < 8) : (pad8 l).length % 8 = 0 ∧ (pad8 l).length ≤ 8 ∧ (∀ x ∈ pad8 l, x ∈ l ∨ x = 0) ∧ (l ≠ [] → (pad8 l).length = 8) := by
 unfold pad8
 by_cases c : l = []
 ·rw [if_pos c]; simp [c]
 ·rw [if_neg c]
  refine ⟨by simp; omega, by simp; omega, fun x hx => ?_, fun _ => by simp; omega⟩
  rcases List.mem_append.1 hx with hx | hx
  ·exact .inl hx
  ·exact .inr (List.mem_replicate.1 hx).2
/-- What is wanted at the end. -/
structure Fin (S : Sk) (wd : Nat) (e : RE) : Prop where
 b : e.bf.length < 8
 x : ∀ x ∈ e.bf, x < 2 ^ wd
 l8 : e.L.length % 8 = 0
 l : e.L.length ≤ 496
 r : e.rep < 1000000
 room : (e.done wd).dn.length ≤ S.n
 cur : 0 < e.rep → e.L = [] → (e.rep = e.bf.length ∨ e.bf = []) → e.cur < 2 ^ wd
theorem fin_is {S : Sk} {wd : Nat} {e : RE} {V : List Nat} (hw : 1 ≤ wd) (hk : Ok wd e V) (hn : V.length < 900000) (hS : (1 + wd) * (V.length + 8) ≤ 8 * S.n) : Fin S wd e := by
 obtain ⟨z, hz, hz2⟩ := ok_done hw hk (by omega)
 obtain ⟨V1, hr1, hx, hb, h8, hl, hc⟩ := hk.runs
 rcases hc with ⟨a1, a2, a3, a4, a5⟩ | ⟨a1, a2, a3, a4⟩
 ·refine ⟨a2, fun x hh => hx x (by rw [a3]; exact List.mem_append_right _ hh), h8, by omega, by omega, by omega, fun q1 q2 q3 => ?_⟩
  have hm : e.cur ∈ e.bf.drop (e.bf.length - e.rep) := by rw [a5]; exact List.mem_replicate.2 ⟨by omega, rfl⟩
  exact hx _ (by rw [a3]; exact List.mem_append_right _ (List.mem_of_mem_drop hm))
 ·have hV : V.length = V1.length + e.rep := by rw [a4]; simp
  refine ⟨by rw [a2]; simp, by rw [a2]; simp, h8, by omega, by omega, by omega, fun q1 q2 q3 => ?_⟩
  exact hx _ (by rw [a4]; exact List.mem_append_right _ (List.mem_replicate.2 ⟨by omega, rfl⟩))
theorem done_a {wd : Nat} {e : RE} (h : e.L = [] ∧ e.rep = 0 ∧ e.bf = []) : e.done wd = e := by unfold RE.done; rw [if_pos h]
theorem done_b {wd : Nat} {e : RE} (h : 0 < e.rep ∧ e.L = [] ∧ (e.rep = e.bf.length ∨ e.bf = [])) : e.done wd = e.again wd := by
 unfold RE.done; rw [if_neg (fun q => by omega), if_pos h]
theorem done_c {wd : Nat} {e : RE} (h1 : ¬ (e.L = [] ∧ e.rep = 0 ∧ e.bf = [])) (h2 : ¬ (0 < e.rep ∧ e.L = [] ∧ (e.rep = e.bf.length ∨ e.bf = []))) : e.L ++ pad8 e.bf ≠ [] ∧ (e.done wd).dn = e.dn ++ pk wd (e.L ++ pad8 e.bf) := by
 have hne : e.L ++ pad8 e.bf ≠ [] := by
  intro q
  obtain ⟨q1, q2⟩ := List.append_eq_nil_iff.1 q
  have q3 : e.bf = [] := by
   unfold pad8 at q2
   by_cases c : e.bf = []
   ·exact c
   ·rw [if_neg c] at q2
    exact absurd (List.append_eq_nil_iff.1 q2).1 c
  by_cases c : e.rep = 0
  ·exact h1 ⟨q1, c, q3⟩
  ·exact h2 ⟨by omega, q1, .inr q3⟩
 refine ⟨hne, ?_⟩
 unfold RE.done
 rw [if_neg h1, if_neg h2]
 unfold RE.shut
 rw [if_neg (show ¬ (({ e with bf := pad8 e.bf } : RE).lit.L = []) from hne)]
 rfl
theorem Str.drewN {w : World} {lo W wd : Nat} {L : List Nat} {dn : List Int} {o : Int} {S : Sk} (s : Str w lo W S wd dn L o) (n : Nat) : Str (w.drewN n) lo W S wd dn L o := by
 rcases s with ⟨a1, a2, pre, N, bits, a3, a4⟩ | ⟨a1, a2, a3⟩
 ·exact .inl ⟨a1, a2, pre, N, bits, a3.drewN n, a4⟩
 ·exact .inr ⟨a1, a2, a3.drewN n⟩
theorem Sm.setR {w : World} {lo R W Q wd cur rep lit : Nat} {bf : List Nat} {off : Int} {S : Sk} {dn : List Int} (h : Ob w lo R W Q wd bf cur rep lit off) (s : Sm w lo W S dn) (j : Nat) (v : Value) : Sm (w.setCell ⟨R, j, none⟩ v) lo W S dn := by
 obtain ⟨pre, N, bits, a3, a4⟩ := s
 exact ⟨pre, N, bits, h.stR a3 j v, a4⟩
theorem pad8_step (l : List Nat) (h0 : l.length ≠ 0) (h8 : l.length < 8) : pad8 (l ++ [0]) = pad8 l := by
 have hl : l ≠ [] := fun q => h0 (by rw [q]; rfl)
 unfold pad8
 rw [if_neg hl, if_neg (by simp), List.append_assoc]
 congr 1
 rw [List.length_append, List.length_singleton, show 8 - l.length = (8 - (l.length + 1)) + 1 by omega, List.replicate_succ]
 rfl
theorem pad8_end (l : List Nat) (h : l.length = 0 ∨ l.length = 8) : pad8 l = l := by
 unfold pad8
 rcases h with h | h
 ·rw [if_pos (List.length_eq_zero_iff.1 h), List.length_eq_zero_iff.1 h]
 ·rw [h]
  split
  ·rename_i q; rw [q]
  ·simp
set_option maxHeartbeats 4000000 in
set_option maxRecDepth 100000 in
theorem rflush_calls {w : World} {lo R W Q wd : Nat} {S : Sk} {e : RE} (h : Rl w lo R W Q wd S e) (hf : Fin S wd e) (hwd : 1 ≤ wd ∧ wd ≤ 32) :
  Calls Tryz.prog 63 #[.pointer (some ⟨R, 0, none⟩)] w fun x w' => x = .returned (.int .i64 ((e.done wd).dn.length : Int)) ∧ Row w' S.X (S.h :: ((e.done wd).dn ++ List.replicate (S.n - (e.done wd).dn.length) 0)) ∧ FrE lo w w' := by
 obtain ⟨off, h, hs, hS2⟩ := h
 have H := Aside0.mk (And.intro h (And.intro hs hS2))
 have HF := Aside0.mk hf
 have HW := Aside0.mk hwd
 have r5 := h.c5
 have r4 := h.c4
 have r1 := h.c1
 clear h hs hS2 hf hwd
 go_enter Tryz.func63, Tryz.ntmps63
 go_upto_region 1 with (fail)
 go_cut [23] (fun v23 wc => ∃ b23 : Bool, v23 = .bool b23 ∧ Aside0 (b23 = true ↔ ¬ (e.L = [] ∧ e.rep = 0 ∧ e.bf = [])) ∧ wc = w)
 case first =>
  have ea : e.L = [] ↔ e.L.length = 0 := List.length_eq_zero_iff.symm
  have ec : e.bf = [] ↔ e.bf.length = 0 := List.length_eq_zero_iff.symm
  obtain ⟨P, hP⟩ : ∃ P : Prop, P = (e.L = [] ∧ e.rep = 0 ∧ e.bf = []) := ⟨_, rfl⟩
  have HP := Aside0.mk hP
  have hh := Aside0.mk (show P ↔ (e.L.length = 0 ∧ e.rep = 0 ∧ e.bf.length = 0) by rw [hP, ea, ec])
  clear hP ea ec
  generalize e.L.length = a at r5 hh
  generalize e.bf.length = c at r1 hh
  generalize e.rep = b at r4 hh
  by_cases c1 : a = 0
  ·subst c1
   by_cases c2 : b = 0
   ·subst c2
    by_cases c3 : c = 0
    ·subst c3
     go_wp2
     go_meet
     case rel => exact ⟨false, rfl, ⟨by rw [← HP.out, hh.out]; simp⟩, rfl⟩
    ·have d3 : decide ((c : Int) > 0) = true := decide_eq_true (by omega)
     have d4 : decide (0 < c) = true := decide_eq_true (by omega)
     have hg := Aside0.mk (show ¬ ((0 : Nat) = 0 ∧ (0 : Nat) = 0 ∧ c = 0) by omega)
     clear c3
     go_wp2
     go_meet
     case rel => exact ⟨true, rfl, ⟨by rw [← HP.out, hh.out]; exact ⟨fun _ => hg.out, fun _ => rfl⟩⟩, rfl⟩
   ·have d3 : decide ((b : Int) > 0) = true := decide_eq_true (by omega)
    have d4 : decide (0 < b) = true := decide_eq_true (by omega)
    have hg := Aside0.mk (show ¬ ((0 : Nat) = 0 ∧ b = 0 ∧ c = 0) by omega)
    clear c2
    go_wp2
    go_meet
    case rel => exact ⟨true, rfl, ⟨by rw [← HP.out, hh.out]; exact ⟨fun _ => hg.out, fun _ => rfl⟩⟩, rfl⟩
  ·have d3 : decide ((a : Int) > 0) = true := decide_eq_true (by omega)
   have d4 : decide (0 < a) = true := decide_eq_true (by omega)
   have hg := Aside0.mk (show ¬ (a = 0 ∧ b = 0 ∧ c = 0) by omega)
   clear c1
   go_wp2
   go_meet
   case rel => exact ⟨true, rfl, ⟨by rw [← HP.out, hh.out]; exact ⟨fun _ => hg.out, fun _ => rfl⟩⟩, rfl⟩
 case rest =>
  obtain ⟨b23, rfl, HB1, hwc⟩ := hcut
  subst wc
  go_upto_if 23 with (fail)
  go_cut [] (fun wc => Aside0 (∃ bf cur rep lit off, Ob wc lo R W Q wd bf cur rep lit off) ∧ Aside0 (Sm wc lo W S (e.done wd).dn) ∧ Aside0 (FrE lo w wc))
  case first =>
   cases b23 with
   | false =>
    have hz : e.L = [] ∧ e.rep = 0 ∧ e.bf = [] := by
     by_cases q : e.L = [] ∧ e.rep = 0 ∧ e.bf = []
     ·exact q
     ·exact absurd (HB1.out.2 q) (by simp)
    have HZ := Aside0.mk hz
    clear hz
    go_wp2
    go_meet
    case rel =>
     rw [done_a HZ.out]
     rcases H.out.2.1 with ⟨_, _, a⟩ | ⟨a, _⟩
     ·exact ⟨⟨_, _, _, _, _, H.out.1⟩, ⟨a⟩, ⟨FrE.refl _ _⟩⟩
     ·exact absurd HZ.out.1 a
   | true =>
    have HNZ := Aside0.mk (HB1.out.1 rfl)
    clear HB1
    go_upto_region 2 with (fail)
    go_cut [3] (fun v3 wc => ∃ b3 : Bool, v3 = .bool b3 ∧ Aside0 (b3 = true ↔ (e.L = [] ∧ (e.rep = e.bf.length ∨ e.bf = []))) ∧ Drawn0 w wc)
    case first =>
     have ea : e.L = [] ↔ e.L.length = 0 := List.length_eq_zero_iff.symm
     have ec : e.bf = [] ↔ e.bf.length = 0 := List.length_eq_zero_iff.symm
     obtain ⟨P, hP⟩ : ∃ P : Prop, P = (e.L = [] ∧ (e.rep = e.bf.length ∨ e.bf = [])) := ⟨_, rfl⟩
     have HP := Aside0.mk hP
     have hh := Aside0.mk (show P ↔ (e.L.length = 0 ∧ (e.rep = e.bf.length ∨ e.bf.length = 0)) by rw [hP, ea, ec])
     have hcb := HF.out.b
     have hcw := i32n e.bf.length (by omega)
     clear hP ea ec hcb
     generalize e.L.length = a at r5 hh
     generalize e.bf.length = c at r1 hh hcw
     generalize e.rep = b at r4 hh
     by_cases c1 : a = 0
     ·subst c1
      by_cases c2 : b = c
      ·subst c2
       have d1 : ((b : Int) == (b : Int)) = true := beq_self_eq_true _
       have d2 : (b == b) = true := beq_self_eq_true _
       go_quiet (fail)
       go_wp2
       go_meet
       case rel => exact ⟨true, rfl, ⟨by rw [← HP.out, hh.out]; simp⟩, by repeat (first | exact Drawn0.refl _ | apply Drawn0.step)⟩
      ·have d1 : ((b : Int) == (c : Int)) = false := beq_eq_false_iff_ne.mpr (by omega)
       have d2 : (b == c) = false := beq_eq_false_iff_ne.mpr c2
       have d3 : decide ((b : Int) = (c : Int)) = false := decide_eq_false (by omega)
       have d4 : decide (b = c) = false := decide_eq_false c2
       by_cases c3 : c = 0
       ·subst c3
        have e1 : ((b : Int) == 0) = false := d1
        have e3 : decide ((b : Int) = 0) = false := decide_eq_false (by omega)
        have r1 : w.cell? ⟨R, 1, none⟩ = some (.slice (some ⟨Q, 0, none⟩) 0 8) := r1
        have e5 : IntKind.i32.wrap 0 = 0 := rfl
        clear c2 hcw d1 d3
        go_quiet (fail)
        go_wp2
        go_meet
        case rel => exact ⟨true, rfl, ⟨by rw [← HP.out, hh.out]; simp⟩, by repeat (first | exact Drawn0.refl _ | apply Drawn0.step)⟩
       ·have g1 : ((c : Int) == 0) = false := beq_eq_false_iff_ne.mpr (by omega)
        have g2 : (c == 0) = false := beq_eq_false_iff_ne.mpr c3
        have g3 : decide ((c : Int) = 0) = false := decide_eq_false (by omega)
        have g4 : decide (c = 0) = false := decide_eq_false c3
        have hg := Aside0.mk (And.intro c2 c3)
        clear c2 c3
        go_quiet (fail)
        go_wp2
        go_meet
        case rel => exact ⟨false, rfl, ⟨by rw [← HP.out, hh.out]; simp; exact hg.out⟩, by repeat (first | exact Drawn0.refl _ | apply Drawn0.step)⟩
     ·have g1 : ((a : Int) == 0) = false := beq_eq_false_iff_ne.mpr (by omega)
      have g2 : (a == 0) = false := beq_eq_false_iff_ne.mpr c1
      have g3 : decide ((a : Int) = 0) = false := decide_eq_false (by omega)
      have g4 : decide (a = 0) = false := decide_eq_false c1
      have hg := Aside0.mk c1
      clear c1
      go_quiet (fail)
      go_wp2
      go_meet
      case rel => exact ⟨false, rfl, ⟨by rw [← HP.out, hh.out]; simp; exact fun q => absurd q hg.out⟩, by repeat (first | exact Drawn0.refl _ | apply Drawn0.step)⟩
    case rest =>
     obtain ⟨b3, rfl, HB3, ⟨md, rfl⟩⟩ := hcut
     have o1 := H.out.1.drewN md
     have s1 := H.out.2.1.drewN md
     have f1 : FrE lo w (w.drewN md) := FrE.drewN md (FrE.refl _ _)
     have hS2 := H.out.2.2
     clear r1 r4 r5 H
     generalize w.drewN md = w1 at o1 s1 f1 ⊢
     have r4 := o1.c4
     by_cases c1 : 0 < e.rep ∧ b3 = true
     ·obtain ⟨c1, rfl⟩ := c1
      obtain ⟨g1, g2⟩ := HB3.out.1 rfl
      have d1 : decide ((e.rep : Int) > 0) = true := decide_eq_true (by omega)
      have d2 : decide (0 < e.rep) = true := decide_eq_true c1
      have hdb := done_b (wd := wd) (e := e) ⟨c1, g1, g2⟩
      have hcx := HF.out.cur c1 g1 g2
      have hcu : e.cur < 18446744073709551616 := by
       have : (2 : Nat) ^ wd ≤ 2 ^ 64 := Nat.pow_le_pow_right (by omega) (by have := HW.out; omega)
       omega
      have hrm := HF.out.room
      rw [hdb] at hrm
      have HDB := Aside0.mk hdb
      have hs0 : Sm w1 lo W S e.dn := by
       rcases s1 with ⟨_, _, a⟩ | ⟨a, _⟩
       ·exact a
       ·exact absurd g1 a
      have HC := Aside0.mk (rep_calls o1 hs0 HW.out hcu (by have := HF.out.r; omega) (by rw [← List.length_append]; exact hrm) hS2)
      have F1 := Aside0.mk f1
      clear o1 s1 f1 hs0 hrm hdb hcx hcu g1 g2 c1 HB3 HNZ hS2
      go_wp2_with (first | (go_at_call 78; go_loud (with_reducible refine HC.out.mono ?_; rintro x w2 ⟨rfl, o2, s2, f2⟩; have O2 := Aside0.mk (And.intro o2 (And.intro s2 f2)); clear o2 s2 f2)))
      go_meet
      case rel => exact ⟨⟨_, _, _, _, _, O2.out.1⟩, ⟨by rw [HDB.out]; exact O2.out.2.1⟩, ⟨F1.out.trans O2.out.2.2⟩⟩
     ·have hn2 : ¬ (0 < e.rep ∧ e.L = [] ∧ (e.rep = e.bf.length ∨ e.bf = [])) := fun q => c1 ⟨q.1, HB3.out.2 q.2⟩
      obtain ⟨hne, hdn⟩ := done_c (wd := wd) HNZ.out hn2
      have hrm := HF.out.room
      rw [hdn] at hrm
      have HDN := Aside0.mk (And.intro hne (And.intro hrm hdn))
      clear hn2 hne hdn hrm HNZ HB3
      go_upto_region 3 with (fail)
      go_cut [57] (fun v57 wc => v57 = .bool false ∧ wc = w1)
      case first =>
       generalize e.rep = b at r4 c1
       by_cases c2 : b = 0
       ·subst c2
        clear c1
        go_wp2
        go_meet
        case rel => exact ⟨rfl, rfl⟩
       ·have d1 : decide ((b : Int) > 0) = true := decide_eq_true (by omega)
        have d2 : decide (0 < b) = true := decide_eq_true (by omega)
        have hb3 : b3 = false := by
         cases b3 with
         | false => rfl
         | true => exact absurd ⟨by omega, rfl⟩ c1
        subst hb3
        clear c1 c2
        go_wp2
        go_meet
        case rel => exact ⟨rfl, rfl⟩
      case rest =>
       obtain ⟨rfl, hwc⟩ := hcut
       subst wc
       clear c1 r4
       have HO := Aside0.mk o1
       have HST := Aside0.mk s1
       have HF1 := Aside0.mk f1
       clear o1 s1 f1
       go_wp2
       go_loopg [] (9 - e.bf.length) (fun kq w' => ∃ bf1 : List Nat, Aside0 (Ob w' lo R W Q wd bf1 e.cur e.rep e.L.length off) ∧ Aside0 (Str w' lo W S wd e.dn e.L off) ∧ Aside0 (bf1.length + kq = 9 ∧ bf1.length ≤ 8) ∧ Aside0 (pad8 bf1 = pad8 e.bf) ∧ Aside0 (FrE lo w w'))
       case atStart => exact ⟨e.bf, HO, HST, ⟨by have := HF.out.b; omega⟩, ⟨rfl⟩, HF1⟩
       case round =>
        obtain ⟨bf1, HO, HST, HK, HP, HF2⟩ := hrel
        have y1 := HO.out.c1
        obtain ⟨k0, rfl⟩ : ∃ k0, gk = k0 + 1 := ⟨gk - 1, by have := HK.out; omega⟩
        by_cases c : bf1.length = 0 ∨ bf1.length = 8
        ·have hpe := pad8_end bf1 c
         rw [HP.out] at hpe
         have HPE := Aside0.mk hpe
         clear hpe
         go_upto_region 5 with (fail)
         go_cut [73] (fun v73 wc => v73 = .bool false ∧ wc = wr)
         case first =>
          rcases c with c | c
          ·rw [c] at y1
           have y1 : wr.cell? ⟨R, 1, none⟩ = some (.slice (some ⟨Q, 0, none⟩) 0 8) := y1
           clear c
           go_wp2
           go_meet
           case rel => exact ⟨rfl, rfl⟩
          ·rw [c] at y1
           have y1 : wr.cell? ⟨R, 1, none⟩ = some (.slice (some ⟨Q, 0, none⟩) 8 8) := y1
           clear c
           go_wp2
           go_meet
           case rel => exact ⟨rfl, rfl⟩
         case rest =>
          obtain ⟨rfl, hwc⟩ := hcut
          subst wc
          have o2 := HO.out
          have s2 := HST.out
          rw [← HPE.out] at o2
          have hbl : (pad8 e.bf).length ≤ 8 := by rw [HPE.out]; exact HK.out.2
          have z5 := o2.f 5
          have y5 := o2.c5
          have HO2 := Aside0.mk o2.c1
          obtain ⟨p1, p2, p3, p4⟩ := pad8_is e.bf HF.out.b
          have hlen : (e.L ++ pad8 e.bf).length = e.L.length + (pad8 e.bf).length := List.length_append
          have hl8 := HF.out.l8
          have hl9 := HF.out.l
          have hrm := HDN.out.2.1
          rw [List.length_append, pk_len] at hrm
          have h0 : 0 < (e.L ++ pad8 e.bf).length := List.length_pos_iff.2 HDN.out.1
          have hxx : ∀ x ∈ pad8 e.bf, x < 2 ^ wd := fun x hx => by
           rcases p3 x hx with q | q
           ·exact HF.out.x x q
           ·rw [q]; exact Nat.two_pow_pos wd
          have o3 := (o2.s5 (e.L.length + (pad8 e.bf).length)).drew
          have s3 := (o2.strR s2 5 (.int .i32 ((e.L.length + (pad8 e.bf).length : Nat) : Int))).drew
          have f3 := HF2.out.trans (FrE.trans (o2.setR 5 (.int .i32 ((e.L.length + (pad8 e.bf).length : Nat) : Int))) (FrE.drew (FrE.refl _ _)))
          have HC := Aside0.mk (lit_calls true o3 s3 hxx HW.out.2 hlen.symm (by rw [hlen]; omega) h0 (by rw [hlen]; omega) (by omega) hS2)
          simp only [if_true] at HC
          have b1 : e.L.length + (pad8 e.bf).length < 1000000 := by omega
          have b2 : (pad8 e.bf).length < 1000000 := by omega
          have F3 := Aside0.mk f3
          clear y1 c HO HST HK HP HPE o2 s2 hbl p1 p2 p3 p4 hlen hl8 hl9 hrm h0 hxx o3 s3 f3
          have y1 := HO2.out
          have hsum := i32a e.L.length (pad8 e.bf).length b1
          have hcw := i32n (pad8 e.bf).length b2
          have HSUM := Aside0.mk (w32a e.L.length (pad8 e.bf).length b1)
          generalize (pad8 e.bf).length = n at y1 hsum hcw HSUM HC F3
          generalize e.L.length + n = m at hsum HSUM HC F3
          clear b1 b2
          go_upto_region 7 with (fail)
          go_still_tail 12, (by kernel_rfl)
          change wpList _ _ _ _ _ wr.drew
          go_upto_region 8 with (fail)
          clear y1 y5 z5
          go_wp2_with (first | (go_at_call 81; go_loud (with_reducible refine HC.out.mono ?_; rintro x w5 ⟨rfl, ⟨o5, s5⟩, f5⟩; have z4 := o5.c4; have v4 := o5.f 4; have O5 := Aside0.mk (And.intro o5 (And.intro s5 f5)); clear o5 s5 f5)))
          go_meet
          case rel =>
           have s6 : Sm w5 lo W S (e.dn ++ pk wd (e.L ++ pad8 e.bf)) := by
            rcases O5.out.2.1 with ⟨_, _, a⟩ | ⟨a, _⟩
            ·exact a
            ·exact absurd rfl a
           exact ⟨⟨_, _, _, _, _, O5.out.1.z4⟩, ⟨by rw [HDN.out.2.2]; exact s6.setR O5.out.1 4 _⟩, ⟨(F3.out.trans O5.out.2.2).trans (O5.out.1.setR 4 _)⟩⟩
        ·have q1 : ((bf1.length : Int) != 0) = true := bne_iff_ne.mpr (by omega)
         have q2 : ((bf1.length : Int) == 0) = false := beq_eq_false_iff_ne.mpr (by omega)
         have q3 : decide ((bf1.length : Int) = 0) = false := decide_eq_false (by omega)
         have hb8 : bf1.length < 8 := by have := HK.out.2; omega
         have q4 : decide ((bf1.length : Int) < 8) = true := decide_eq_true (by omega)
         have q5 : decide (bf1.length < 8) = true := decide_eq_true hb8
         obtain ⟨junk, hl, hq⟩ := HO.out.q
         have hap := append_q Q bf1.length wr.heap.size (.int .u64 0) (wr.alloc (.cells #[.int .u64 0] 26)) (blk_alloc hq _) (by simpa using hl) hb8 ((blk_cell (blk_new wr _) 0).trans rfl) rfl
         have o2 : Ob (((wr.alloc (.cells #[.int .u64 0] 26)).setCell ⟨Q, bf1.length, none⟩ (.int .u64 0)).setCell ⟨R, 1, none⟩ (.slice (some ⟨Q, 0, none⟩) (bf1.length + 1) 8)) lo R W Q wd (bf1 ++ [0]) e.cur e.rep e.L.length off := (HO.out.alloc (.cells #[.int .u64 0] 26)).push 0 hb8
         have s2 := (HO.out.alloc (.cells #[.int .u64 0] 26)).strQ (HST.out.alloc (.cells #[.int .u64 0] 26)) bf1.length (.int .u64 0)
         obtain ⟨y2, v2⟩ := (HO.out.alloc (.cells #[.int .u64 0] 26)).far1 bf1.length (.int .u64 0)
         have f2 := (FrE.alloc HST.out.lolt (.cells #[.int .u64 0] 26)).trans (((HO.out.alloc (.cells #[.int .u64 0] 26)).setQ bf1.length (.int .u64 0)))
         have hr2 : ∃ g, ((wr.alloc (.cells #[.int .u64 0] 26)).setCell ⟨Q, bf1.length, none⟩ (.int .u64 0)).heap[R]? = some (.cells (reL W Q bf1.length wd e.cur e.rep e.L.length off g) 181 (0, 0)) := by
          obtain ⟨g, hr⟩ := HO.out.r
          exact ⟨g, blk_far (blk_alloc hr _) (p := ⟨Q, bf1.length, none⟩) (Ne.symm (blk_ne hq hr (by decide))) _⟩
         obtain ⟨g, hr2⟩ := hr2
         have s3 : Str (((wr.alloc (.cells #[.int .u64 0] 26)).setCell ⟨Q, bf1.length, none⟩ (.int .u64 0)).setCell ⟨R, 1, none⟩ (.slice (some ⟨Q, 0, none⟩) (bf1.length + 1) 8)) lo W S wd e.dn e.L off := by
          rcases s2 with ⟨a1, a2, pre, N, bits, a3, a4⟩ | ⟨a1, a2, a3⟩
          ·exact .inl ⟨a1, a2, pre, N, bits, a3.setE hr2 (by decide) (by decide) (by decide) 1 _, a4⟩
          ·exact .inr ⟨a1, a2, a3.setE hr2 (by decide) (by decide) (by decide) 1 _⟩
         have f3 : FrE lo wr (((wr.alloc (.cells #[.int .u64 0] 26)).setCell ⟨Q, bf1.length, none⟩ (.int .u64 0)).setCell ⟨R, 1, none⟩ (.slice (some ⟨Q, 0, none⟩) (bf1.length + 1) 8)) := f2.trans ⟨Below.setCell (p := ⟨R, 1, none⟩) (Below.refl _ _) HO.out.lr _, fun g t cs e _ _ a _ => blk_far e (p := ⟨R, 1, none⟩) (blk_ne e hr2 a) _⟩
         have hps := pad8_step bf1 (fun q => c (.inl q)) hb8
         have RES := Aside0.mk (And.intro o2 (And.intro s3 (And.intro f3 (hps.trans HP.out))))
         have HAP := Aside0.mk hap
         clear hap hq hl o2 s2 s3 f2 f3 hr2 hps c
         go_wp2_with (first | ((with_reducible refine gate_builtin (b := .append) (xs := #[.tmp 78, .tmp 79]) rfl ?_); refine wpl_append rfl _ _ 37 rfl rfl rfl HAP.out ?_))
         go_roundg k0
         case measure => have := HK.out; omega
         case rel => exact ⟨bf1 ++ [0], ⟨RES.out.1⟩, ⟨RES.out.2.1⟩, ⟨by have := HK.out; simp; omega⟩, ⟨RES.out.2.2.2⟩, ⟨HF2.out.trans RES.out.2.2.1⟩⟩
  case rest =>
   obtain ⟨HC0, HSM, HFR⟩ := hcut
   obtain ⟨pre, N, bits, t1, t2⟩ := HSM.out
   have hS2 := H.out.2.2
   have hrm := HF.out.room
   generalize hD : (e.done wd).dn = D at t2 hrm
   have HD := Aside0.mk hD
   clear hD
   have hlen : (pre ++ toB ((bits + 7) / 8) N).length = D.length := by rw [t2]
   rw [List.length_append, toB_len] at hlen
   have hfl := st_flushf t1 (by omega)
   rw [t2] at hfl
   have HFL := Aside0.mk hfl
   obtain ⟨bf, cur, rep, lit, off1, oc⟩ := HC0.out
   have y0 := oc.c0
   have HOC := Aside0.mk oc
   clear H HF r1 r4 r5 t1 t2 hlen hfl HSM HB1 HC0 oc
   go_wp2_with (first | (go_at_call 82; go_loud (with_reducible refine HFL.out.mono ?_; rintro x w5 ⟨rfl, ⟨byo, buf, bto, rs, b5, g1, g2, g3⟩, f5⟩; have o5 := HOC.out.fr f5; have y0 := o5.c0; have HWR := Aside0.mk (written2_calls b5.bw g2 g1); have B5 := Aside0.mk b5; have F5 := Aside0.mk f5; have G3 := Aside0.mk g3; clear b5 f5 g1 g2 g3 o5)) | (go_at_call 83; go_loud (with_reducible refine HWR.out.mono ?_; rintro x w6 ⟨rfl, m6, rfl⟩)))
   go_ret
   rw [HD.out]
   refine ⟨by rw [← G3.out]; simp, ?_, HFR.out.trans (F5.out.e.trans (FrE.drewN m6 (FrE.refl _ _)))⟩
   exact B5.out.2.2.1
end Go.Proofs.YtiieljnllgeoeaaGreat.Q
