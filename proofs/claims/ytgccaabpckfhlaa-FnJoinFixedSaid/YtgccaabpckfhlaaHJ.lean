/- impl.JoinFixed. -/
import Derived.Test.YtgccaabpckfhlaaJf
namespace Go.Proofs.Ytgccaabpckfhlaa.Q
open Go.RowKit Go.Proofs.YtgccaabpckfhlaaW.PrintWords Go.Proofs.YtgccaabpckfhlaaW.PrintLast Go.Proofs.YtgccaabpckfhlaaW.PrintMore
set_option linter.unusedVariables false
set_option linter.unusedSimpArgs false
theorem noBytes_idle (pl pok : Addr) (w : World) :
    CallsD Try.prog 8 #[.pointer (some pl), .pointer (some pok)] .returning w fun e u' w' => e = .returned (.tuple #[]) ∧ u' = .returning ∧ w' = w := by
  refine callsD_of_wpS Try.func8 rfl fun c₀ cs hu => ?_
  apply wpS_seq
  apply wpS_region
  simp [wpOpsS, go_sem, recoverD, hu, Try.ntmps8, Exit.thenS]
  refine wpS_cond (t := false) (by simp [Act.eval, Array.replicate]) ?_
  simp only [Bool.false_eq_true, if_false]
  refine wpS_of_wp (wp_skip ?_)
  cases c₀
  simp_all [bodyPostS, results, Try.results8]
theorem dst_read {W0 w : World} {B D n m : Nat} {A0 : Option Addr} {out : List Int} (h : Dst W0 w B D n m A0 n out) (hm : m ≤ 1048576) : Kd.C (Kd.int .u8) w A0 out.length out := by
  have hk := h.hk
  by_cases c : n = 0
  · have hz : out = [] := List.eq_nil_of_length_eq_zero (by omega)
    subst hz
    exact Kd.C_of_reads (enc := Value.int .u8) (d := (0 : Int)) (h1 := fun _ => rfl) ⟨rfl, by simp, fun h => absurd h (by simp)⟩
  · obtain ⟨rfl, _, lc, hr, hlc, htk⟩ := h.row (by omega)
    have := cell_row hr n (by have := h.nm; omega) (by omega)
    rwa [htk] at this
set_option maxHeartbeats 1000000 in
set_option maxRecDepth 100000 in
theorem Concat_calls (A : Option Addr) (c : Nat) (ds : List Nat) (xs : List S28) (base wd : Nat) (w : World) (hr : Kd.C kIf w A ds.length ds) (hp : PartsAt w base ds xs) (hl : ds.length ≤ 20) (hf : ∀ x ∈ xs, PartOk wd x) (hwd : wd ≤ 32) (hN : lenN xs ≤ 4000) :
    Calls Try.prog 10 #[.slice A ds.length c, .int .i64 0, .int .i64 (wd : Int), .int .i64 (lenN xs : Int), .iface 41 (.agg #[])] w fun e w' => ∃ D m A0, e = .returned (.pointer (some ⟨w.heap.size, 0, none⟩)) ∧ Dst w w' w.heap.size D (lenN xs * wd) m A0 (lenN xs * wd) (joinB wd xs) ∧ m ≤ 1048576 := by
  have HC := Aside0.mk (concat_calls A c ds xs base wd w hr hp hl hf hwd hN)
  clear hr hp hf
  go_enter Try.func10, Try.ntmps10
  go_wp2_with (first | (go_at_call 13; refine HC.out.mono ?_; rintro e w1 ⟨D, m, A0, rfl, h1, h2⟩; have H1 := Aside0.mk h1; have H2 := Aside0.mk h2; clear h1 h2))
  go_ret
  first | exact ⟨D, m, A0, rfl, H1.out, H2.out⟩ | exact ⟨rfl, D, m, ⟨A0, H1.out⟩, H2.out⟩
theorem lenN_step (xs : List S28) (i : Nat) (x : S28) (h : xs[i]? = some x) : lenN (xs.take (i + 1)) = lenN (xs.take i) + x.f3.toNat := by
  unfold lenN
  rw [List.take_add_one, h]
  simp
theorem lenN_le (xs : List S28) (h : ∀ x ∈ xs, x.f3.toNat ≤ 200) : lenN xs ≤ 200 * xs.length := by
  unfold lenN
  induction xs with
  | nil => simp
  | cons x r ih =>
    have h0 := h x (by simp)
    have := ih (fun y hy => h y (by simp [hy]))
    rw [List.map_cons, List.sum_cons, List.length_cons]
    omega
/-- The parts that are spoken of. -/
def FairJ (l0 : List S28) (a1 : Int) : Prop := l0.length ≤ 20 ∧ 0 ≤ a1 ∧ a1 ≤ 32 ∧ ∀ x ∈ l0, PartOk a1.toNat x
instance (l0 : List S28) (a1 : Int) : Decidable (FairJ l0 a1) := by unfold FairJ; infer_instance
def impl_JoinFixed.f (l0 : List S28) (a1 : Int) : Option (List Int × Bool) := if FairJ l0 a1 then some (joinB a1.toNat l0, true) else none
set_option maxHeartbeats 400000 in
set_option maxRecDepth 100000 in
theorem join_walk (A0 : Option Addr) (c0 : Nat) (l0 : List S28) (wd : Nat) (w : World) (hr0 : Kd.C k28 w A0 l0.length l0) (hc0 : l0.length ≤ c0) (hl : l0.length ≤ 20) (hwd : wd ≤ 32) (hf : ∀ x ∈ l0, PartOk wd x) :
    Calls Try.prog 5 #[.slice A0 l0.length c0, .int .i64 (wd : Int)] w fun e w' => ∃ v0_ : Value, e = .returned (.tuple #[v0_, .bool true]) ∧ Kd.R (Kd.int .u8) 5 w' w.heap.size (fun _ => True) v0_ (joinB wd l0) ∧ Below w.heap.size w w' := by
  have h2 : Below w.heap.size w ((w.alloc (.cells #[.slice none 0 0] 24)).alloc (.cells #[.bool false] 4)) := below_alloc (below_alloc (Below.refl _ _) _) _
  have k0 : ((w.alloc (.cells #[.slice none 0 0] 24)).alloc (.cells #[.bool false] 4)).heap[w.heap.size]? = some (.cells #[.slice none 0 0] 24 (0, 0)) := blk_alloc (blk_new w _) _
  have k1 : ((w.alloc (.cells #[.slice none 0 0] 24)).alloc (.cells #[.bool false] 4)).heap[w.heap.size + 1]? = some (.cells #[.bool false] 4 (0, 0)) := by
    have h := blk_new (w.alloc (.cells #[.slice none 0 0] 24)) (.cells #[.bool false] 4)
    simpa using h
  have ks : ((w.alloc (.cells #[.slice none 0 0] 24)).alloc (.cells #[.bool false] 4)).heap.size = w.heap.size + 2 := by simp
  have hlen := lenN_le l0 (fun x hx => by have := hf x hx; unfold PartOk at this; omega)
  have HR0 := Aside0.mk hr0
  have HF := Aside0.mk hf
  have HN := Aside0.mk hlen
  have H2 := Aside0.mk h2
  have K0 := Aside0.mk k0
  have K1 := Aside0.mk k1
  have KS := Aside0.mk ks
  clear hr0 hf hlen h2 k0 k1 ks
  go_enter_defers Try.func5, Try.ntmps5
  go_wp2
  generalize (w.alloc (.cells #[.slice none 0 0] 24)).alloc (.cells #[.bool false] 4) = W2 at H2 K0 K1 KS ⊢
  go_loopg [6, 11] (l0.length + 1) (fun kq v6 v11 w' => ∃ (i k : Nat), v11 = .int .i64 (i : Int) ∧ v6 = .int .i64 (k : Int) ∧ Aside0 (i + kq = l0.length + 1) ∧ Aside0 (i ≤ l0.length) ∧ Aside0 (k = lenN (l0.take i)) ∧ Aside0 (k ≤ 200 * i) ∧ Aside0 (Below W2.heap.size W2 w'))
  case atStart => exact ⟨0, 0, rfl, rfl, ⟨by omega⟩, ⟨by omega⟩, ⟨rfl⟩, ⟨by omega⟩, ⟨Below.refl _ _⟩⟩
  case round =>
    obtain ⟨i, k, rfl, rfl, HK, HI, HKK, HK2, HB⟩ := hrel
    cases gk with
    | zero => exact absurd HK.out (by have := HI.out; omega)
    | succ k1' =>
      have hB : Below w.heap.size w wr := H2.out.trans (HB.out.mono (by rw [KS.out]; omega))
      by_cases c2 : (i : Int) < (l0.length : Int)
      · have c2b : decide ((i : Int) < (l0.length : Int)) = true := decide_eq_true c2
        obtain ⟨ad, A1, c1, rfl, x0, x1, x2, x3, hl1, hi1⟩ := at_T28 (Kd.C_below HR0.out hB) (i : Int) (by omega) (by omega)
        rw [Int.toNat_natCast] at x0 x1 x2 x3
        have hget : l0[i]? = some (rd_T28 l0 (i : Int)) := by
          show _ = some (l0.getD (i : Int).toNat z28)
          rw [Int.toNat_natCast, List.getD_eq_getElem?_getD, List.getElem?_eq_getElem (by omega)]; rfl
        have hok := HF.out _ (List.mem_of_getElem? hget)
        have hst := lenN_step l0 i _ hget
        obtain ⟨_, _, _, l0', l1', _, _⟩ := hok
        obtain ⟨q, hq⟩ : ∃ q : Nat, (rd_T28 l0 (i : Int)).f3 = (q : Int) := ⟨(rd_T28 l0 (i : Int)).f3.toNat, by omega⟩
        rw [hq] at x3 hst l0' l1'
        have g0 : (0 : Int) ≤ (i : Int) := by omega
        have hk2 := HK2.out
        have hk5 : k ≤ 4000 := by omega
        have HST := Aside0.mk hst
        have HBA := Aside0.mk HB.out.size
        clear hget hst hq hB hi1 hk2
        go_wp2
        go_roundg k1'
        case measure => have := HK.out; omega
        case rel => exact ⟨i + 1, k + q, (by simp), (by simp), ⟨by have := HK.out; omega⟩, ⟨by omega⟩, ⟨by have := HST.out; have := HKK.out; rw [Int.toNat_natCast] at *; omega⟩, ⟨by have := HK2.out; omega⟩, ⟨HB.out.trans ((below_alloc (Below.refl _ _) _).mono HBA.out)⟩⟩
      · have c2b : decide ((i : Int) < (l0.length : Int)) = false := decide_eq_false c2
        have hi : i = l0.length := by have := HI.out; omega
        subst hi
        have hk : k = lenN l0 := by have := HKK.out; rwa [List.take_length] at this
        subst hk
        have HPO := Aside0.mk (partsOf_calls A0 c0 l0 wr (Kd.C_below HR0.out hB) hc0 hl (fun x hx => by have := HF.out x hx; exact ⟨this.1, this.2.2.2.2.2.2⟩))
        have HBW := Aside0.mk hB
        clear hB
        go_wp2_with (first | (go_at_call 11; go_loud (refine HPO.out.mono ?_; rintro e w3 ⟨v, ds, rfl, r1, p1, b1⟩; obtain ⟨A3, c3, rfl⟩ := Kd.R_slice r1; have hcc := Concat_calls A3 c3 ds l0 wr.heap.size wd w3 (Kd.R_reads' r1).2.2 p1 (by have := p1.1; omega) HF.out hwd (by have := HN.out; omega); have HCC := Aside0.mk hcc; clear hcc; have B3 := Aside0.mk b1; clear r1 p1 b1)) | (go_at_call 10; go_loud (refine HCC.out.mono ?_; rintro e w4 ⟨D, m, A4, rfl, d1, m1⟩; have jl := d1.hk; have q1 : w4.cell? ⟨w3.heap.size, 1, none⟩ = some (.slice A4 m m) := (blk_cell d1.buf 1).trans rfl; have q2 : w4.cell? ⟨w3.heap.size, 2, none⟩ = some (.int .i64 ((lenN l0 * wd : Nat) : Int)) := (blk_cell d1.buf 2).trans rfl; have HBY := Aside0.mk (bytes_calls w3.heap.size A4 m (lenN l0 * wd) m w4 q1 q2 d1.nm); have D1 := Aside0.mk d1; have M1 := Aside0.mk m1; have JL := Aside0.mk jl; clear d1 m1 q1 q2 jl)) | (go_at_call 12; go_loud (refine HBY.out.mono ?_; rintro e w5 ⟨rfl, ⟨nq, rfl⟩⟩; have cp := impl_copied.calls A4 m (joinB wd l0) (joinB wd l0) (w4.drewN nq) (dst_read (D1.out.drewN nq) M1.out) (by have := JL.out; have := D1.out.nm; omega) (by unfold impl_copied.f; simp only [Option.bind_some, List.length_nil, List.nil_append]; rw [if_pos (by have := JL.out; have := D1.out.nm; have := M1.out; omega)]); rw [JL.out] at cp; have HCP := Aside0.mk cp; clear cp)) | (go_at_call 9; go_loud (refine HCP.out.mono ?_; rintro e w6 ⟨v0, rfl, r1, b1⟩; obtain ⟨A6, c6, rfl⟩ := Kd.R_slice r1; have hb4 : Below w3.heap.size w3 (w4.drewN nq) := pw_below_drewN D1.out.bel nq; have hb6 : Below wr.heap.size wr w6 := B3.out.trans ((hb4.trans (b1.mono hb4.size)).mono B3.out.size); have hbw : Below W2.heap.size W2 w6 := HB.out.trans (hb6.mono HB.out.size); have y0 := (hbw.block w.heap.size (blk_lt K0.out)).trans K0.out; have y1 := (hbw.block (w.heap.size + 1) (blk_lt K1.out)).trans K1.out; have s0 : w6.cell? ⟨w.heap.size, 0, none⟩ = some (.slice none 0 0) := (blk_cell y0 0).trans rfl; have s1 : w6.cell? ⟨w.heap.size + 1, 0, none⟩ = some (.bool false) := (blk_cell y1 0).trans rfl; have z0 := blk_frozen y0 0; have z1 := blk_frozen y1 0; have Y := Aside0.mk (And.intro y0 (And.intro y1 hbw)); have R1 := Aside0.mk (Kd.R_bound r1); have XX := Aside0.mk (Nat.le_trans HB.out.size (Nat.le_trans B3.out.size hb4.size)); clear r1 b1 hb4 hb6 hbw y0 y1)))
        obtain ⟨y0, y1, hbw⟩ := Y.out
        have e0 := blk_far (blk_set y0 0 (.slice A6 (joinB wd l0).length c6)) (p := ⟨w.heap.size + 1, 0, none⟩) (show w.heap.size ≠ w.heap.size + 1 by omega) (.bool true)
        have e1 := blk_set (blk_far y1 (p := ⟨w.heap.size, 0, none⟩) (show w.heap.size + 1 ≠ w.heap.size by omega) (.slice A6 (joinB wd l0).length c6)) 0 (.bool true)
        have hRR := Kd.R_far (p := ⟨w.heap.size + 1, 0, none⟩) (Kd.R_far (p := ⟨w.heap.size, 0, none⟩) R1.out (fun k hk => by have := hk.2.1; have := XX.out; have := KS.out; show k ≠ w.heap.size; omega) (.slice A6 (joinB wd l0).length c6)) (fun k hk => by have := hk.2.1; have := XX.out; have := KS.out; show k ≠ w.heap.size + 1; omega) (.bool true)
        have hBB := Below.setCell (p := ⟨w.heap.size + 1, 0, none⟩) (Below.setCell (p := ⟨w.heap.size, 0, none⟩) (H2.out.trans (hbw.mono (by rw [KS.out]; omega))) (Nat.le_refl _) (.slice A6 (joinB wd l0).length c6)) (show w.heap.size ≤ w.heap.size + 1 by omega) (.bool true)
        generalize (w6.setCell ⟨w.heap.size, 0, none⟩ (.slice A6 (joinB wd l0).length c6)).setCell ⟨w.heap.size + 1, 0, none⟩ (.bool true) = w7 at e0 e1 hRR hBB ⊢
        have c0 : w7.cell? ⟨w.heap.size, 0, none⟩ = some (.slice A6 (joinB wd l0).length c6) := (blk_cell e0 0).trans rfl
        have c1 : w7.cell? ⟨w.heap.size + 1, 0, none⟩ = some (.bool true) := (blk_cell e1 0).trans rfl
        refine leaves_cons (f := 8) (args := #[.pointer (some ⟨w.heap.size, 0, none⟩), .pointer (some ⟨w.heap.size + 1, 0, none⟩)]) (by simp) (by simp [go_sem]) ?_
        refine (noBytes_idle _ _ _).mono ?_
        rintro e u' w'' ⟨rfl, rfl, rfl⟩
        refine ⟨.tuple #[.slice A6 (joinB wd l0).length c6, .bool true], ?_, _, rfl, Kd.R_mono (Kd.R_lower hRR (by have := XX.out; have := KS.out; omega)) (fun _ _ => trivial), hBB⟩
        simp [results, Try.results5, go_sem, c0, c1]

theorem impl_JoinFixed.calls (A0 : Option Addr) (c0 : Nat) (l0 : List (S28)) (a1 : Int) (r1 : List Int) (r2 : Bool) (w : World) (hr0 : Kd.C k28 w A0 l0.length l0) (hc0 : l0.length ≤ c0) (h : impl_JoinFixed.f l0 a1 = some (r1, r2)) :
    Calls Try.prog 5 #[.slice A0 l0.length c0, .int .i64 a1] w fun e w' => ∃ v0_ : Value, e = .returned (.tuple #[v0_, .bool r2]) ∧ Kd.R (Kd.int .u8) 5 w' w.heap.size (fun _ => True) v0_ r1 ∧ Below w.heap.size w w' := by
  unfold impl_JoinFixed.f at h
  by_cases hf : FairJ l0 a1
  · rw [if_pos hf] at h
    simp only [Option.some.injEq, Prod.mk.injEq] at h
    obtain ⟨rfl, rfl⟩ := h
    obtain ⟨f1, f2, f3, f4⟩ := hf
    obtain ⟨wd, rfl⟩ : ∃ wd : Nat, a1 = (wd : Int) := ⟨a1.toNat, by omega⟩
    rw [Int.toNat_natCast] at f4 ⊢
    exact join_walk A0 c0 l0 wd w hr0 hc0 f1 (by omega) f4
  · rw [if_neg hf] at h
    cases h
end Go.Proofs.Ytgccaabpckfhlaa.Q
