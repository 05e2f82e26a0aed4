/- impl.DeltasWritten64. -/
import Derived.Test.YtdekingogcmboaaME
namespace Go.Proofs.Ytdekingogcmboaa.Q
open Go.RowKit Go.Proofs.YtdekingogcmboaaW.PrintWords Go.Proofs.YtdekingogcmboaaW.PrintLast Go.Proofs.YtdekingogcmboaaW.PrintMore
set_option linter.unusedVariables false
set_option linter.unusedSimpArgs false
/-- The parts that are spoken of. -/
def Fair64 (l0 : List (List Int)) : Prop := l0.length ≤ 60 ∧ l0.flatten.length ≤ 2000 ∧ l0.flatten ≠ [] ∧ (∀ x ∈ l0.flatten, -9223372036854775808 ≤ x ∧ x ≤ 9223372036854775807)
instance (l0 : List (List Int)) : Decidable (Fair64 l0) := by unfold Fair64; infer_instance
def impl_DeltasWritten64.f (l0 : List (List Int)) : Option (List Int × Bool) := if Fair64 l0 then some (encAll wrap64 l0.flatten, true) else none
set_option maxHeartbeats 4000000 in
set_option maxRecDepth 100000 in
theorem dw64_walk (A0 : Option Addr) (c0 : Nat) (l0 : List (List Int)) (w : World) (hr0 : Kd.C (Kd.slice 2 (Kd.int .i64)) w A0 l0.length l0) (hc0 : l0.length ≤ c0) (hf : Fair64 l0) :
    Calls Try.prog 10 #[.slice A0 l0.length c0] w fun e w' => ∃ v0_ : Value, e = .returned (.tuple #[v0_, .bool true]) ∧ Kd.R (Kd.int .u8) 5 w' w.heap.size (fun _ => True) v0_ (encAll wrap64 l0.flatten) ∧ Below w.heap.size w w' := by
  obtain ⟨hf1, hf2, hf3, hf4⟩ := hf
  have h2 : Below w.heap.size w ((w.alloc (.cells #[.slice none 0 0] 27)).alloc (.cells #[.bool false] 4)) := below_alloc (below_alloc (Below.refl _ _) _) _
  have k0 : ((w.alloc (.cells #[.slice none 0 0] 27)).alloc (.cells #[.bool false] 4)).heap[w.heap.size]? = some (.cells #[.slice none 0 0] 27 (0, 0)) := blk_alloc (blk_new w _) _
  have k1 : ((w.alloc (.cells #[.slice none 0 0] 27)).alloc (.cells #[.bool false] 4)).heap[w.heap.size + 1]? = some (.cells #[.bool false] 4 (0, 0)) := by
    have h := blk_new (w.alloc (.cells #[.slice none 0 0] 27)) (.cells #[.bool false] 4)
    simpa using h
  have ks : ((w.alloc (.cells #[.slice none 0 0] 27)).alloc (.cells #[.bool false] 4)).heap.size = w.heap.size + 2 := by simp
  have HR0 := Aside0.mk hr0
  have HF := Aside0.mk (And.intro hf1 (And.intro hf2 (And.intro hf3 hf4)))
  have HN := Aside0.mk (fun W => new64_calls W)
  have H2 := Aside0.mk h2
  have K0 := Aside0.mk k0
  have K1 := Aside0.mk k1
  have KS := Aside0.mk ks
  clear hr0 hc0 hf1 hf2 hf3 hf4 h2 k0 k1 ks
  go_enter_defers Try.func10, Try.ntmps10
  go_wp2_with (first | (go_at_call 18; refine (HN.out _).mono ?_; rintro e w1 ⟨E, S, rfl, hm⟩; have HM := Aside0.mk hm; clear hm))
  generalize (w.alloc (.cells #[.slice none 0 0] 27)).alloc (.cells #[.bool false] 4) = W2 at HM H2 K0 K1 KS
  clear HN
  go_loopg [12] (l0.length + 1) (fun kq v12 w' => ∃ (i : Nat), v12 = .int .i64 (i : Int) ∧ Aside0 (i + kq = l0.length + 1) ∧ Aside0 (i ≤ l0.length) ∧ Aside0 (Stt 75 wrap64 w' W2.heap.size E S (l0.take i).flatten) ∧ Aside0 (Below W2.heap.size W2 w'))
  case atStart => exact ⟨0, rfl, ⟨by omega⟩, ⟨by omega⟩, ⟨by simpa using HM.out.1⟩, ⟨HM.out.2⟩⟩
  case round =>
    obtain ⟨i, rfl, HK, HI, HV, HBW⟩ := hrel
    obtain ⟨k1, rfl⟩ : ∃ k1, gk = k1 + 1 := ⟨gk - 1, by have := HK.out; have := HI.out; omega⟩
    by_cases c2 : i < l0.length
    · have c2b : decide ((i : Int) < (l0.length : Int)) = true := decide_eq_true (by omega)
      have hB : Below w.heap.size w wr := H2.out.trans (HBW.out.mono (by rw [KS.out]; omega))
      obtain ⟨ad, A1, c1, rfl, hcw, hl1, hC⟩ := at_part HR0.out i c2
      have hc := (hB.cell (World.block_lt_of_cell? w _ hcw)).trans hcw
      have g0 : (0 : Int) ≤ (i : Int) := by omega
      have g1 : (i : Int) < (l0.length : Int) := by omega
      have hst := flat_step l0 i c2
      have hle := flat_le l0 (i + 1)
      have hfl := HF.out.2.1
      rw [hst, List.length_append] at hle
      have hput := put64_any (c := c1) A1 (l0.getD i []) HV.out (fun W' hb => Kd.C_below hC (hB.trans (hb.mono (by rw [KS.out]; omega)))) (by omega)
      rw [← hst] at hput
      have hw : IntKind.i64.wrap ((i : Int) + 1) = ((i + 1 : Nat) : Int) := by rw [IntKind.wrap_i64]; have := HF.out.1; omega
      have HP := Aside0.mk hput
      have HC2 := Aside0.mk c2
      clear hst hle hfl hput hB hC hl1 hcw c2
      go_wp2_with (first | (go_at_call 19; refine HP.out.mono ?_; rintro e w3 ⟨rfl, e1, e2⟩; have E1 := Aside0.mk (And.intro e1 e2); clear e1 e2))
      go_roundg k1
      case measure => omega
      case rel => exact ⟨i + 1, by simp, ⟨by have := HK.out; omega⟩, ⟨by have := HC2.out; omega⟩, ⟨E1.out.1⟩, ⟨HBW.out.trans E1.out.2⟩⟩
    · have hi : i = l0.length := by have := HI.out; omega
      subst hi
      have c2b : decide ((l0.length : Int) < (l0.length : Int)) = false := decide_eq_false (by omega)
      have htk : (l0.take l0.length).flatten = l0.flatten := by rw [List.take_length]
      rw [htk] at HV
      clear c2 htk HM
      obtain ⟨hlo, hv⟩ := HV.out
      rcases hv with ⟨hnil, _⟩ | ⟨first, rest, W, ds, out, hl, hen, hpt⟩
      · exact absurd hnil HF.out.2.2.1
      · have hlen := HF.out.2.1
        rw [hl, List.length_cons] at hlen
        obtain ⟨q1, q2, q3⟩ := hpt.facts wrap64_fit (by omega)
        have hfb := HF.out.2.2.2 first (by rw [hl]; exact List.mem_cons_self)
        have hfv := fv64_calls hen q1 (by omega) q3 (by omega) hfb
        have henc : hdr (rest.length + 1) first ++ (out ++ tb ds) = encAll wrap64 l0.flatten := by rw [hl, hpt.enc]; rfl
        rw [henc] at hfv
        have hml : (encAll wrap64 l0.flatten).length < 1000000 := by
          rw [← henc]
          have h1 := (hdr_len (rest.length + 1) first (by omega) hfb).2.2.2.2.2.1
          have h2 := tb_len ds q1
          simp only [List.length_append]; omega
        have HFV := Aside0.mk hfv
        have HML := Aside0.mk hml
        have hfb2 : Below W2.heap.size W2 wr := HBW.out
        have HB2 := Aside0.mk hfb2
        clear hlo hen hpt q1 q2 q3 hfb hfv henc hml hfb2 hlen hl
        go_wp2_with (first | (go_at_call 21; refine HFV.out.mono ?_; rintro e w2 ⟨BB, ba, bc, rfl, p1, p2, p3, p4, p5⟩; have HFF := Aside0.mk (flushed_calls BB ba bc _ w2 p1 p2 p3 p4 HML.out); have P5 := Aside0.mk (HB2.out.trans p5); clear p1 p2 p3 p4 p5) | (go_at_call 20; refine HFF.out.mono ?_; rintro e w4 ⟨v0, rfl, r1, b1⟩; obtain ⟨A4, c4, rfl⟩ := Kd.R_slice r1; have hbw : Below W2.heap.size W2 w4 := P5.out.trans (b1.mono P5.out.size); have y0 := (hbw.block w.heap.size (blk_lt K0.out)).trans K0.out; have y1 := (hbw.block (w.heap.size + 1) (blk_lt K1.out)).trans K1.out; have s0 : w4.cell? ⟨w.heap.size, 0, none⟩ = some (.slice none 0 0) := (blk_cell y0 0).trans rfl; have s1 : w4.cell? ⟨w.heap.size + 1, 0, none⟩ = some (.bool false) := (blk_cell y1 0).trans rfl; have z0 := blk_frozen y0 0; have z1 := blk_frozen y1 0; have Y := Aside0.mk (And.intro y0 (And.intro y1 hbw)); have R1 := Aside0.mk (Kd.R_bound r1); have XX := Aside0.mk P5.out.size; clear r1 b1 hbw y0 y1))
        obtain ⟨y0, y1, hbw⟩ := Y.out
        generalize encAll wrap64 l0.flatten = Z at *
        have e0 := blk_far (blk_set y0 0 (.slice A4 Z.length c4)) (p := ⟨w.heap.size + 1, 0, none⟩) (show w.heap.size ≠ w.heap.size + 1 by omega) (.bool true)
        have e1 := blk_set (blk_far y1 (p := ⟨w.heap.size, 0, none⟩) (show w.heap.size + 1 ≠ w.heap.size by omega) (.slice A4 Z.length c4)) 0 (.bool true)
        have hRR := Kd.R_far (p := ⟨w.heap.size + 1, 0, none⟩) (Kd.R_far (p := ⟨w.heap.size, 0, none⟩) R1.out (fun k hk => by have := hk.2.1; have := XX.out; have := KS.out; show k ≠ w.heap.size; omega) (.slice A4 Z.length c4)) (fun k hk => by have := hk.2.1; have := XX.out; have := KS.out; show k ≠ w.heap.size + 1; omega) (.bool true)
        have hBB := Below.setCell (p := ⟨w.heap.size + 1, 0, none⟩) (Below.setCell (p := ⟨w.heap.size, 0, none⟩) (H2.out.trans (hbw.mono (by rw [KS.out]; omega))) (Nat.le_refl _) (.slice A4 Z.length c4)) (show w.heap.size ≤ w.heap.size + 1 by omega) (.bool true)
        generalize (w4.setCell ⟨w.heap.size, 0, none⟩ (.slice A4 Z.length c4)).setCell ⟨w.heap.size + 1, 0, none⟩ (.bool true) = w5 at e0 e1 hRR hBB ⊢
        have c0 : w5.cell? ⟨w.heap.size, 0, none⟩ = some (.slice A4 Z.length c4) := (blk_cell e0 0).trans rfl
        have c1 : w5.cell? ⟨w.heap.size + 1, 0, none⟩ = some (.bool true) := (blk_cell e1 0).trans rfl
        refine leaves_cons (f := 17) (args := #[.pointer (some ⟨w.heap.size, 0, none⟩), .pointer (some ⟨w.heap.size + 1, 0, none⟩)]) (by simp) (by simp [go_sem]) ?_
        refine (noBytes_idle _ _ _).mono ?_
        rintro e u' w'' ⟨rfl, rfl, rfl⟩
        refine ⟨.tuple #[.slice A4 Z.length c4, .bool true], ?_, _, rfl, Kd.R_mono (Kd.R_lower hRR (by have := XX.out; have := KS.out; omega)) (fun _ _ => trivial), hBB⟩
        simp [results, Try.results10, go_sem, c0, c1]
theorem impl_DeltasWritten64.calls (A0 : Option Addr) (c0 : Nat) (l0 : List (List Int)) (r1 : List Int) (r2 : Bool) (w : World) (hr0 : Kd.C (Kd.slice 2 (Kd.int .i64)) w A0 l0.length l0) (hc0 : l0.length ≤ c0) (h : impl_DeltasWritten64.f l0 = some (r1, r2)) :
    Calls Try.prog 10 #[.slice A0 l0.length c0] w fun e w' => ∃ v0_ : Value, e = .returned (.tuple #[v0_, .bool r2]) ∧ Kd.R (Kd.int .u8) 5 w' w.heap.size (fun _ => True) v0_ r1 ∧ Below w.heap.size w w' := by
  unfold impl_DeltasWritten64.f at h
  by_cases hf : Fair64 l0
  · rw [if_pos hf] at h
    simp only [Option.some.injEq, Prod.mk.injEq] at h
    obtain ⟨rfl, rfl⟩ := h
    exact dw64_walk A0 c0 l0 w hr0 hc0 hf
  · rw [if_neg hf] at h
    cases h
end Go.Proofs.Ytdekingogcmboaa.Q
