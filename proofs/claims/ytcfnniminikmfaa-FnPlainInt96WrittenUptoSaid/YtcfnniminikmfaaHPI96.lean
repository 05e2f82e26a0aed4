/- impl.PlainInt96Written. -/
import Derived.Test.YtcfnniminikmfaaIc
namespace Go.Proofs.Ytcfnniminikmfaa.Q
open Go.RowKit Go.Proofs.YtcfnniminikmfaaW.PrintWords Go.Proofs.YtcfnniminikmfaaW.PrintLast Go.Proofs.YtcfnniminikmfaaW.PrintMore
set_option linter.unusedVariables false
set_option linter.unusedSimpArgs false
def impl_PlainInt96Written.f (l0 : List (List S29)) : Option (List Int × Bool) := if ∀ p ∈ l0, ∀ x ∈ p, x.f2.size = 12 then plainF by96 l0 else none
set_option maxHeartbeats 4000000 in
set_option maxRecDepth 100000 in
theorem plainI96_walk (A0 : Option Addr) (c0 : Nat) (l0 : List (List S29)) (w : World) (hr0 : Kd.C (Kd.slice 29 k29) w A0 l0.length l0) (hc0 : l0.length ≤ c0) (hall : ∀ p ∈ l0, ∀ x ∈ p, x.f2.size = 12) (hf : Fair by96 l0) :
    Calls Try.prog 17 #[.slice A0 l0.length c0] w fun e w' => ∃ v0_ : Value, e = .returned (.tuple #[v0_, .bool true]) ∧ Kd.R (Kd.int .u8) 5 w' w.heap.size (fun _ => True) v0_ (plainB by96 l0) ∧ Below w.heap.size w w' := by
  obtain ⟨hf1, hf2, hf3⟩ := hf
  have h2 : Below w.heap.size w ((w.alloc (.cells #[.slice none 0 0] 23)).alloc (.cells #[.bool false] 4)) := below_alloc (below_alloc (Below.refl _ _) _) _
  have k0 : ((w.alloc (.cells #[.slice none 0 0] 23)).alloc (.cells #[.bool false] 4)).heap[w.heap.size]? = some (.cells #[.slice none 0 0] 23 (0, 0)) := blk_alloc (blk_new w _) _
  have k1 : ((w.alloc (.cells #[.slice none 0 0] 23)).alloc (.cells #[.bool false] 4)).heap[w.heap.size + 1]? = some (.cells #[.bool false] 4 (0, 0)) := by
    have h := blk_new (w.alloc (.cells #[.slice none 0 0] 23)) (.cells #[.bool false] 4)
    simpa using h
  have ks : ((w.alloc (.cells #[.slice none 0 0] 23)).alloc (.cells #[.bool false] 4)).heap.size = w.heap.size + 2 := by simp
  have HR0 := Aside0.mk hr0
  have HC0 := Aside0.mk hc0
  have HF2 := Aside0.mk hf2
  have HF3 := Aside0.mk hf3
  have HF1 := Aside0.mk hf1
  have HALL := Aside0.mk hall
  clear hr0 hc0 hf1 hf2 hf3 hall
  have HN := Aside0.mk (fun W => newI96_calls W)
  have H2 := Aside0.mk h2
  have K0 := Aside0.mk k0
  have K1 := Aside0.mk k1
  have KS := Aside0.mk ks
  clear h2 k0 k1 ks
  go_enter_defers Try.func17, Try.ntmps17
  go_wp2_with (first | (go_at_call 38; refine (HN.out _).mono ?_; rintro e w1 ⟨E, S, B, D, l, G, rfl, hm⟩; have HM := Aside0.mk hm; clear hm))
  generalize (w.alloc (.cells #[.slice none 0 0] 23)).alloc (.cells #[.bool false] 4) = W2 at HM H2 K0 K1 KS
  clear HN
  go_loopg [12] (l0.length + 1) (fun kq v12 w' => ∃ (i : Nat) (D' : Nat) (l' : List Int) (pos : Nat), v12 = .int .i64 (i : Int) ∧ Aside0 (i + kq = l0.length + 1) ∧ Aside0 (i ≤ l0.length) ∧ Aside0 (Inv W2 w' E S B D' l' pos G (plainB by96 (l0.take i))))
  case atStart => exact ⟨0, D, l, 0, rfl, ⟨by omega⟩, ⟨by omega⟩, ⟨by have := HM.out.inv; simpa [plainB] using this⟩⟩
  case round =>
    obtain ⟨i, D', l', pos, rfl, HK, HI, HV⟩ := hrel
    cases gk with
    | zero => exact absurd HK.out (by have := HI.out; omega)
    | succ k1 =>
      have hinv := HV.out
      obtain ⟨v1, v2, v3, v4, v5, v6, v7, v8, v9, v10, v11, v12⟩ := hinv
      by_cases c2 : (i : Int) < (l0.length : Int)
      · have c2b : decide ((i : Int) < (l0.length : Int)) = true := decide_eq_true c2
        have hB : Below w.heap.size w wr := H2.out.trans (v12.mono (by rw [KS.out]; omega))
        obtain ⟨ad, A1, c1, rfl, hc, hl1, hC⟩ := at_L6 (Kd.C_below HR0.out hB) (i : Int) (by omega) (by omega)
        rw [Int.toNat_natCast] at hc
        have hm : rd_L6 l0 (i : Int) ∈ l0 := by
          show l0.getD (i : Int).toNat _ ∈ l0
          rw [Int.toNat_natCast, List.getD_eq_getElem?_getD, List.getElem?_eq_getElem (by omega)]
          exact List.getElem_mem _
        have hp5 := HF2.out _ hm
        have g0 : (0 : Int) ≤ (i : Int) := by omega
        have hst := plainB_step by96 l0 i (by omega)
        have hle := plainB_le by96 l0 (i + 1)
        rw [hst, List.length_append] at hle
        have hfl : ((rd_L6 l0 (i : Int)).map by96).flatten = (rd_L6 l0 (i : Int)).flatMap by96 := rfl
        have hsz : ∀ x ∈ rd_L6 l0 (i : Int), x.f2.size = 12 := HALL.out _ hm
        have hxx : ∀ x ∈ (rd_L6 l0 (i : Int)).map by96, x.length = 12 := by
          intro x hx
          obtain ⟨y, hy, rfl⟩ := List.mem_map.1 hx
          show (bytesOf y.f2).length = 12
          rw [bytesOf_length]; exact hsz y hy
        have hlen : ((rd_L6 l0 (i : Int)).flatMap by96).length = 12 * (rd_L6 l0 (i : Int)).length := by
          rw [← hfl, flat96_len _ hxx, List.length_map]
        have h3 := HF3.out
        have HLI := Aside0.mk (listInt96_calls A1 c1 (rd_L6 l0 (i : Int)) wr hC hl1 hp5 hsz)
        have HP := Aside0.mk (fun A c w1 (hb : Below wr.heap.size wr w1) (hr : Kd.C k96 w1 A ((rd_L6 l0 (i : Int)).map by96).length ((rd_L6 l0 (i : Int)).map by96)) =>
          putEI96_calls E S B D' l' pos 0 G A c _ w1 (v8.below hb) (v9.below hb) hr hxx (by rw [List.length_map]; omega))
        simp only [List.length_map] at HP
        have HFL := Aside0.mk hfl
        have HST := Aside0.mk hst
        have hA := congrArg (plainB by96) (rfl : l0.take i = l0.take i)
        clear hfl hst hlen hle hm hsz hxx v1 v2 v3 v4 v5 v6 v7 v8 v9 v10 v11 v12 hB hC HM hA h3
        go_wp2_with (first | (go_at_call 40; refine HLI.out.mono ?_; go_loud (rintro e w2 ⟨v0, rfl, r1, b1⟩; obtain ⟨A2, c2', rfl⟩ := Kd.R_slice r1; have HPP := Aside0.mk (HP.out A2 c2' w2 b1 (by have := (Kd.R_reads' r1).2.2; rwa [List.length_map] at this)); have HIV := Aside0.mk (HV.out.below b1); clear r1 b1)) | (go_at_call 39; refine HPP.out.mono ?_; rintro e w3 ⟨rfl, e1⟩; have E1 := Aside0.mk e1; clear e1))
        obtain ⟨D2, l2, hinv2⟩ := HIV.out.wrote E1.out
        rw [HFL.out, ← HST.out] at hinv2
        go_roundg k1
        case measure => have := HK.out; omega
        case rel => exact ⟨i + 1, D2, l2, _, (by have hwi : wrap64 ((i : Int) + 1) = (i : Int) + 1 := (by have := HF1.out; unfold wrap64; omega); simp [hwi]), ⟨by have := HK.out; omega⟩, ⟨by omega⟩, ⟨hinv2⟩⟩
      · have c2b : decide ((i : Int) < (l0.length : Int)) = false := decide_eq_false c2
        have hi : i = l0.length := by have := HI.out; omega
        subst hi
        have htk : plainB by96 (l0.take l0.length) = plainB by96 l0 := by rw [List.take_length]
        rw [htk] at HV v10 v11
        have HFL := Aside0.mk (flush_calls E S B D' l' pos G wr v8 v9)
        have hfd := (fun w1 (h : IsBuf w1 B D' l' pos G) => flushed_calls B D' l' pos G w1 h v9.le v9.hi)
        simp only [v11] at hfd
        have HFD := Aside0.mk hfd
        clear hfd
        clear HM
        have HT := Aside0.mk v11
        have HSB := Aside0.mk (And.intro v2 (And.intro v3 (And.intro v4 v12)))
        clear v1 v2 v3 v4 v5 v6 v7 v8 v9 v10 v11 v12 htk
        go_wp2_with (first | (go_at_call 26; refine HFL.out.mono ?_; rintro e w2 ⟨rfl, q1, q2, q3⟩; have HFF := Aside0.mk (HFD.out w2 q1); have Q3 := Aside0.mk q3; clear q1 q2 q3) | (go_at_call 25; refine HFF.out.mono ?_; rintro e w4 ⟨v0, rfl, r1, b1⟩; obtain ⟨A4, c4, rfl⟩ := Kd.R_slice r1; obtain ⟨x1, x2, x3, x4⟩ := HSB.out; have hbw : Below W2.heap.size W2 w4 := (x4.trans (Q3.out.mono (by omega))).trans (b1.mono (Nat.le_trans x4.size Q3.out.size)); have y0 := (hbw.block w.heap.size (blk_lt K0.out)).trans K0.out; have y1 := (hbw.block (w.heap.size + 1) (blk_lt K1.out)).trans K1.out; have s0 : w4.cell? ⟨w.heap.size, 0, none⟩ = some (.slice none 0 0) := (blk_cell y0 0).trans rfl; have s1 : w4.cell? ⟨w.heap.size + 1, 0, none⟩ = some (.bool false) := (blk_cell y1 0).trans rfl; have z0 := blk_frozen y0 0; have z1 := blk_frozen y1 0; have Y := Aside0.mk (And.intro y0 (And.intro y1 hbw)); have R1 := Aside0.mk (Kd.R_bound r1); have XX := Aside0.mk (Nat.le_trans x4.size Q3.out.size); clear r1 b1 x1 x2 x3 x4 hbw y0 y1))
        obtain ⟨y0, y1, hbw⟩ := Y.out
        have e0 := blk_far (blk_set y0 0 (.slice A4 (plainB by96 l0).length c4)) (p := ⟨w.heap.size + 1, 0, none⟩) (show w.heap.size ≠ w.heap.size + 1 by omega) (.bool true)
        have e1 := blk_set (blk_far y1 (p := ⟨w.heap.size, 0, none⟩) (show w.heap.size + 1 ≠ w.heap.size by omega) (.slice A4 (plainB by96 l0).length c4)) 0 (.bool true)
        have hRR := Kd.R_far (p := ⟨w.heap.size + 1, 0, none⟩) (Kd.R_far (p := ⟨w.heap.size, 0, none⟩) R1.out (fun k hk => by have := hk.2.1; have := XX.out; have := KS.out; show k ≠ w.heap.size; omega) (.slice A4 (plainB by96 l0).length c4)) (fun k hk => by have := hk.2.1; have := XX.out; have := KS.out; show k ≠ w.heap.size + 1; omega) (.bool true)
        have hBB := Below.setCell (p := ⟨w.heap.size + 1, 0, none⟩) (Below.setCell (p := ⟨w.heap.size, 0, none⟩) (H2.out.trans (hbw.mono (by rw [KS.out]; omega))) (Nat.le_refl _) (.slice A4 (plainB by96 l0).length c4)) (show w.heap.size ≤ w.heap.size + 1 by omega) (.bool true)
        generalize (w4.setCell ⟨w.heap.size, 0, none⟩ (.slice A4 (plainB by96 l0).length c4)).setCell ⟨w.heap.size + 1, 0, none⟩ (.bool true) = w5 at e0 e1 hRR hBB ⊢
        have c0 : w5.cell? ⟨w.heap.size, 0, none⟩ = some (.slice A4 (plainB by96 l0).length c4) := (blk_cell e0 0).trans rfl
        have c1 : w5.cell? ⟨w.heap.size + 1, 0, none⟩ = some (.bool true) := (blk_cell e1 0).trans rfl
        refine leaves_cons (f := 21) (args := #[.pointer (some ⟨w.heap.size, 0, none⟩), .pointer (some ⟨w.heap.size + 1, 0, none⟩)]) (by simp) (by simp [go_sem]) ?_
        refine (noBytes_idle _ _ _).mono ?_
        rintro e u' w'' ⟨rfl, rfl, rfl⟩
        refine ⟨.tuple #[.slice A4 (plainB by96 l0).length c4, .bool true], ?_, _, rfl, Kd.R_mono (Kd.R_lower hRR (by have := XX.out; have := KS.out; omega)) (fun _ _ => trivial), hBB⟩
        simp [results, Try.results17, go_sem, c0, c1]

theorem impl_PlainInt96Written.calls (A0 : Option Addr) (c0 : Nat) (l0 : List (List (S29))) (r1 : List Int) (r2 : Bool) (w : World) (hr0 : Kd.C (Kd.slice 29 k29) w A0 l0.length l0) (hc0 : l0.length ≤ c0) (h : impl_PlainInt96Written.f l0 = some (r1, r2)) :
    Calls Try.prog 17 #[.slice A0 l0.length c0] w fun e w' => ∃ v0_ : Value, e = .returned (.tuple #[v0_, .bool r2]) ∧ Kd.R (Kd.int .u8) 5 w' w.heap.size (fun _ => True) v0_ r1 ∧ Below w.heap.size w w' := by
  unfold impl_PlainInt96Written.f plainF at h
  by_cases ha : ∀ p ∈ l0, ∀ x ∈ p, x.f2.size = 12
  · rw [if_pos ha] at h
    by_cases hf : Fair by96 l0
    · rw [if_pos hf] at h
      simp only [Option.some.injEq, Prod.mk.injEq] at h
      obtain ⟨rfl, rfl⟩ := h
      exact plainI96_walk A0 c0 l0 w hr0 hc0 ha hf
    · rw [if_neg hf] at h
      cases h
  · rw [if_neg ha] at h
    cases h
end Go.Proofs.Ytcfnniminikmfaa.Q
