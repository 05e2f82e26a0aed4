/- array.concatFixedWidthBuffers. -/
import Derived.Test.YtgccaabpckfhlaaJe
namespace Go.Proofs.Ytgccaabpckfhlaa.Q
open Go.RowKit Go.Proofs.YtgccaabpckfhlaaW.PrintWords Go.Proofs.YtgccaabpckfhlaaW.PrintLast Go.Proofs.YtgccaabpckfhlaaW.PrintMore
set_option linter.unusedVariables false
set_option linter.unusedSimpArgs false
theorem slice_bl (A : Option Addr) (L c o q wd : Nat) (h : o * wd + q * wd ≤ c) (W : World) : (Instr.sliceAt 24 (.slice A L c) (some (.int .i64 ((o : Int) * (wd : Int)))) (some (.int .i64 ((o : Int) * (wd : Int) + (q : Int) * (wd : Int)))) none).run Try.prog W = .ok (.slice (if c - o * wd = 0 then A else A.map (·.add (o * wd))) (q * wd) (c - o * wd)) W := by
  have h1 := slice_any A L c (o * wd) (o * wd + q * wd) (by omega) h W
  rw [show o * wd + q * wd - o * wd = q * wd by omega] at h1
  have e1 : ((o * wd : Nat) : Int) = (o : Int) * (wd : Int) := by simp
  have e2 : ((o * wd + q * wd : Nat) : Int) = (o : Int) * (wd : Int) + (q : Int) * (wd : Int) := by simp
  rwa [e1, e2] at h1
/-- A part that is spoken of. -/
def PartOk (wd : Nat) (x : S28) : Prop := x.f0 = true ∧ 0 ≤ x.f2 ∧ x.f2 ≤ 200 ∧ 0 ≤ x.f3 ∧ x.f3 ≤ 200 ∧ (x.f2.toNat + x.f3.toNat) * wd ≤ x.f1.length ∧ x.f1.length ≤ 2147483647
instance (wd : Nat) (x : S28) : Decidable (PartOk wd x) := by unfold PartOk; infer_instance
/-- What a part gives. -/
def pc (wd : Nat) (x : S28) : List Int := (x.f1.drop (x.f2.toNat * wd)).take (x.f3.toNat * wd)
theorem pc_len (wd : Nat) (x : S28) (h : PartOk wd x) : (pc wd x).length = x.f3.toNat * wd := by
  obtain ⟨_, _, _, _, _, h1, _⟩ := h
  unfold pc
  rw [Nat.add_mul] at h1
  simp; omega
def joinB (wd : Nat) (xs : List S28) : List Int := xs.flatMap (pc wd)
def lenN (xs : List S28) : Nat := (xs.map fun x => x.f3.toNat).sum
theorem join_len (wd : Nat) (xs : List S28) (h : ∀ x ∈ xs, PartOk wd x) : (joinB wd xs).length = lenN xs * wd := by
  unfold joinB lenN
  induction xs with
  | nil => simp
  | cons x r ih => rw [List.flatMap_cons, List.length_append, pc_len wd x (h x (by simp)), ih (fun y hy => h y (by simp [hy])), List.map_cons, List.sum_cons, Nat.add_mul]
theorem join_step (wd : Nat) (xs : List S28) (i : Nat) (x : S28) (h : xs[i]? = some x) : joinB wd (xs.take (i + 1)) = joinB wd (xs.take i) ++ pc wd x := by
  unfold joinB
  rw [List.take_add_one, h, List.flatMap_append]
  simp
theorem join_le (wd : Nat) (xs : List S28) (i : Nat) : (joinB wd (xs.take i)).length ≤ (joinB wd xs).length := by
  have e : joinB wd xs = joinB wd (xs.take i) ++ joinB wd (xs.drop i) := by unfold joinB; rw [← List.flatMap_append, List.take_append_drop]
  rw [e, List.length_append]; omega
theorem dst_of {w w2 : World} {n : Nat} (hs : Sized (w.alloc (bufH (.slice none 0 0) 0)) w2 w.heap.size n) : ∃ D m A0, Dst w w2 w.heap.size D n m A0 0 [] ∧ m ≤ n + 64 ∧ At D m 0 A0 := by
  obtain ⟨h, hk, hb⟩ := hs
  have hbel : Below w.heap.size w w2 := (below_alloc (Below.refl _ _) _).trans hb
  rcases h with ⟨h0, h1⟩ | ⟨h0, D, m, h1, h2, h3, h4, h5⟩
  · subst h0
    exact ⟨0, 0, none, ⟨rfl, Nat.le_refl _, Nat.le_refl _, fun _ => rfl, h1, fun h => absurd h (by omega), Nat.le_refl _, fun h => absurd h (by omega), hbel⟩, by omega, fun h => absurd h (by omega)⟩
  · have hsz : (w.alloc (bufH (.slice none 0 0) 0)).heap.size = w.heap.size + 1 := by simp
    exact ⟨D, m, some ⟨D, 0, none⟩, ⟨rfl, by omega, h2, by omega, h4, fun _ => ⟨rfl, by omega, _, h5, by simp, by simp⟩, Nat.le_refl _, fun _ => by omega, hbel⟩, by omega, fun _ => rfl⟩
set_option maxHeartbeats 1000000 in
set_option maxRecDepth 100000 in
theorem buffers_calls (d : Nat) (v : Value) (w : World) (h : w.cell? ⟨d, 5, none⟩ = some v) (hv : v.oneCell' = true) : Calls Try.prog 46 #[.pointer (some ⟨d, 0, none⟩)] w fun e w' => e = .returned v ∧ w' = w := by
  go_enter Try.func46, Try.ntmps46
  go_wp2
  go_ret
  exact ⟨rfl, rfl⟩
set_option maxHeartbeats 1000000 in
set_option maxRecDepth 100000 in
theorem len_calls (d : Nat) (v : Value) (w : World) (h : w.cell? ⟨d, 4, none⟩ = some v) (hv : v.oneCell' = true) : Calls Try.prog 47 #[.pointer (some ⟨d, 0, none⟩)] w fun e w' => e = .returned v ∧ w' = w := by
  go_enter Try.func47, Try.ntmps47
  go_wp2
  go_ret
  exact ⟨rfl, rfl⟩
set_option maxHeartbeats 1000000 in
set_option maxRecDepth 100000 in
theorem off_calls (d : Nat) (v : Value) (w : World) (h : w.cell? ⟨d, 3, none⟩ = some v) (hv : v.oneCell' = true) : Calls Try.prog 48 #[.pointer (some ⟨d, 0, none⟩)] w fun e w' => e = .returned v ∧ w' = w := by
  go_enter Try.func48, Try.ntmps48
  go_wp2
  go_ret
  exact ⟨rfl, rfl⟩
theorem at_if {w : World} {A : Option Addr} {n : Nat} {ds : List Nat} (h : Kd.C kIf w A n ds) (i : Nat) (hi : i < n) : ∃ ad d, A = some ad ∧ ds[i]? = some d ∧ w.cell? (ad.add i) = some (.iface 46 (.pointer (some ⟨d, 0, none⟩))) := by
  have hn : ds.length = n := h.1
  obtain ⟨ad, rfl, hc⟩ := ReadsOf.at_ (Kd.reads_of_C (enc := dV) (d := 0) (h1 := fun _ => rfl) h) (i : Int) (by omega) (by omega)
  have e : ds[i]? = some (rdOf 0 ds (i : Int)) := by
    show _ = some (ds.getD (i : Int).toNat 0)
    rw [Int.toNat_natCast, List.getD_eq_getElem?_getD, List.getElem?_eq_getElem (by omega)]; rfl
  rw [Int.toNat_natCast] at hc
  exact ⟨ad, _, rfl, e, hc⟩
set_option maxHeartbeats 2000000 in
set_option maxRecDepth 100000 in
theorem concat_calls (A : Option Addr) (c : Nat) (ds : List Nat) (xs : List S28) (base wd : Nat) (w : World) (hr : Kd.C kIf w A ds.length ds) (hp : PartsAt w base ds xs) (hl : ds.length ≤ 20) (hf : ∀ x ∈ xs, PartOk wd x) (hwd : wd ≤ 32) (hN : lenN xs ≤ 4000) :
    Calls Try.prog 13 #[.slice A ds.length c, .int .i64 0, .int .i64 (wd : Int), .int .i64 (lenN xs : Int), .iface 41 (.agg #[])] w fun e w' => ∃ D m A0, e = .returned (.pointer (some ⟨w.heap.size, 0, none⟩)) ∧ Dst w w' w.heap.size D (lenN xs * wd) m A0 (lenN xs * wd) (joinB wd xs) ∧ m ≤ 1048576 := by
  obtain ⟨N, hNN⟩ : ∃ N, N = lenN xs := ⟨_, rfl⟩
  have hjl := join_len wd xs hf
  rw [← hNN] at hjl hN ⊢
  obtain ⟨n, hn⟩ : ∃ n, n = N * wd := ⟨_, rfl⟩
  have hni : (n : Int) = (N : Int) * (wd : Int) := by rw [hn]; simp
  have hnb : n ≤ 128000 := by rw [hn]; exact Nat.le_trans (Nat.mul_le_mul hN hwd) (by decide)
  have hm0 : (0 : Int) ≤ (N : Int) * (wd : Int) := by omega
  have hm1 : (N : Int) * (wd : Int) ≤ 128000 := by omega
  have hR := Resize_calls w.heap.size n (by omega) (w.alloc (bufH (.slice none 0 0) 0)) (blk_new w _)
  rw [hni] at hR
  rw [← hn] at hjl ⊢
  have HR := Aside0.mk hR
  have HC := Aside0.mk hr
  have HP := Aside0.mk hp
  have HF := Aside0.mk hf
  have HJ := Aside0.mk hjl
  have HL := Aside0.mk hp.1
  have HNI := Aside0.mk hni
  have HNN := Aside0.mk hNN
  have HNW := Aside0.mk hn
  clear hR hr hp hf hjl hni hNN hn
  go_enter Try.func13, Try.ntmps13
  go_upto_region 4 with (first | (go_at_call 16; refine (newres_calls _).mono ?_; rintro e w1 ⟨rfl, rfl⟩) | (go_at_call 17; go_loud (refine HR.out.mono ?_; rintro e w2 ⟨rfl, hs⟩; obtain ⟨D, m, A0, hd, hm, ha⟩ := dst_of hs; have r1 : w2.cell? ⟨w.heap.size, 1, none⟩ = some (.slice A0 m m) := (blk_cell hd.buf 1).trans rfl; have r2 : w2.cell? ⟨w.heap.size, 2, none⟩ = some (.int .i64 (n : Int)) := (blk_cell hd.buf 2).trans rfl; have HB := Aside0.mk (bytes_calls w.heap.size A0 m n m w2 r1 r2 hd.nm); have HD := Aside0.mk hd; have HA := Aside0.mk ha; clear hs hd ha r1 r2)) | (go_at_call 12; refine HB.out.mono ?_; rintro e w3 ⟨rfl, ⟨nq, rfl⟩⟩))
  have hnm := HD.out.nm
  have hz : m ≤ 1048576 := by omega
  obtain ⟨W1, hW1⟩ : ∃ W1, W1 = w2.drewN nq := ⟨_, rfl⟩
  have hd := HD.out.drewN nq
  rw [← hW1] at hd ⊢
  have HD1 := Aside0.mk hd
  clear hd hW1 HB HR HD
  go_wp2
  go_loopg [12, 29] (ds.length + 1) (fun kq v12 v29 w' => ∃ (i k : Nat) (Ax : Option Addr), v29 = .int .i64 (i : Int) ∧ v12 = .slice Ax (n - k) (m - k) ∧ Aside0 (i + kq = ds.length + 1) ∧ Aside0 (i ≤ ds.length) ∧ Aside0 (At D m k Ax) ∧ Aside0 (Dst w w' w.heap.size D n m A0 k (joinB wd (xs.take i))))
  case atStart => exact ⟨0, 0, A0, rfl, rfl, ⟨by omega⟩, ⟨by omega⟩, HA, HD1⟩
  case round =>
    obtain ⟨i, k, Ax, rfl, rfl, HK, HI, HAx, HDx⟩ := hrel
    cases gk with
    | zero => exact absurd HK.out (by have := HI.out; omega)
    | succ k1 =>
      by_cases c2 : (i : Int) < (ds.length : Int)
      · have c2b : decide ((i : Int) < (ds.length : Int)) = true := decide_eq_true c2
        obtain ⟨ad, d, rfl, hdi, hcd⟩ := at_if (Kd.C_below HC.out HDx.out.bel) i (by omega)
        obtain ⟨x, hxi⟩ : ∃ x, xs[i]? = some x := ⟨_, List.getElem?_eq_getElem (by have := HL.out; omega)⟩
        have hok := HF.out x (List.mem_of_getElem? hxi)
        have hpl := pc_len wd x hok
        have hst := join_step wd xs i x hxi
        have hjle := join_le wd xs (i + 1)
        rw [HJ.out, hst, List.length_append, HDx.out.hk, hpl] at hjle
        obtain ⟨q, sb, pb, A, cc, _, _, _, a4, a5, a6, a7, a8⟩ := (HP.out.move (Kept.of_below HDx.out.bel (fun _ => False)) (fun _ _ h => h)).2 i d x hdi hxi
        obtain ⟨_, o0, o1, l0, l1, hfit, hlen⟩ := hok
        obtain ⟨o, ho⟩ : ∃ o : Nat, x.f2 = (o : Int) := ⟨x.f2.toNat, by omega⟩
        obtain ⟨ln, hln⟩ : ∃ ln : Nat, x.f3 = (ln : Int) := ⟨x.f3.toNat, by omega⟩
        have hto : x.f2.toNat = o := by omega
        have htl : x.f3.toNat = ln := by omega
        rw [hto, htl, Nat.add_mul] at hfit
        rw [htl] at hpl hjle
        have e3 : wr.cell? ⟨d, 3, none⟩ = some (.int .i64 (o : Int)) := (blk_cell a4 3).trans (by rw [← ho]; rfl)
        have e4 : wr.cell? ⟨d, 4, none⟩ = some (.int .i64 (ln : Int)) := (blk_cell a4 4).trans (by rw [← hln]; rfl)
        have e5 : wr.cell? ⟨d, 5, none⟩ = some (.slice (some ⟨sb, 0, none⟩) 1 1) := (blk_cell a4 5).trans rfl
        have e6 : wr.cell? ⟨sb, 0, none⟩ = some (.pointer (some ⟨pb, 0, none⟩)) := (blk_cell a5 0).trans rfl
        have e7 : wr.cell? ⟨pb, 1, none⟩ = some (.slice A x.f1.length cc) := (blk_cell a6 1).trans rfl
        have e8 : wr.cell? ⟨pb, 2, none⟩ = some (.int .i64 (x.f1.length : Int)) := (blk_cell a6 2).trans rfl
        have HB46 := Aside0.mk (buffers_calls d _ wr e5 rfl)
        have HB48 := Aside0.mk (off_calls d _ wr e3 rfl)
        have HB47 := Aside0.mk (len_calls d _ wr e4 rfl)
        have HBY := Aside0.mk (bytes_calls pb A x.f1.length x.f1.length cc wr e7 e8 a7)
        have p0 : o * wd ≤ 6400 := Nat.le_trans (Nat.mul_le_mul (by omega) hwd) (by decide : 200 * 32 ≤ 6400)
        have p1 : ln * wd ≤ 6400 := Nat.le_trans (Nat.mul_le_mul (by omega) hwd) (by decide : 200 * 32 ≤ 6400)
        have i0 : ((o * wd : Nat) : Int) = (o : Int) * (wd : Int) := by simp
        have i1 : ((ln * wd : Nat) : Int) = (ln : Int) * (wd : Int) := by simp
        have j0 : (0 : Int) ≤ (o : Int) * (wd : Int) := by omega
        have j1 : (o : Int) * (wd : Int) ≤ 6400 := by omega
        have j2 : (0 : Int) ≤ (ln : Int) * (wd : Int) := by omega
        have j3 : (ln : Int) * (wd : Int) ≤ 6400 := by omega
        have hs1 := slice_bl A x.f1.length cc o ln wd (by omega)
        have hread := (Kd.R_reads' a8).2.2
        have g0 : (0 : Int) ≤ (i : Int) := by omega
        obtain ⟨As, hAs⟩ : ∃ As, As = (if cc - o * wd = 0 then A else A.map (·.add (o * wd))) := ⟨_, rfl⟩
        rw [← hAs] at hs1
        have hsr : ∀ nq : Nat, 0 < ln * wd → ∃ a, As = some a ∧ ∀ j, j < ln * wd → (wr.drewN nq).cell? (a.add j) = some (.int .u8 ((pc wd x).getD j 0)) := by
          intro nq hpos
          rw [hAs, if_neg (by omega)]
          obtain ⟨a, rfl, _⟩ := Kd.at_int hread 0 (by omega) (by omega)
          refine ⟨a.add (o * wd), rfl, fun j hj => ?_⟩
          obtain ⟨a2, e, hcj⟩ := Kd.at_int hread ((o * wd + j : Nat) : Int) (by omega) (by omega)
          obtain rfl := Option.some.inj e
          rw [Int.toNat_natCast] at hcj
          have e1 : (a.add (o * wd)).add j = a.add (o * wd + j) := add_add a _ _
          have e2 : (pc wd x).getD j 0 = rd x.f1 ((o * wd + j : Nat) : Int) := by
            show _ = x.f1.getD ((o * wd + j : Nat) : Int).toNat 0
            rw [Int.toNat_natCast]
            unfold pc
            rw [hto, htl, List.getD_eq_getElem?_getD, List.getD_eq_getElem?_getD, List.getElem?_take, if_pos hj, List.getElem?_drop]
          rw [e1, e2]
          exact hcj
        have hds := (fun nq : Nat => dst_step (cs := cc - o * wd) (HDx.out.drewN nq) HAx.out hpl (by omega) (by omega) (hsr nq))
        simp only [i1] at hds
        have HDS := Aside0.mk hds
        have HST := Aside0.mk hst
        clear hds hsr hread hAs a4 a5 a6 a8 hdi hxi hst hpl ho hln hto htl hfit i0 i1
        go_wp2_with (first | (go_at_call 46; refine HB46.out.mono ?_; rintro e w5 ⟨rfl, hw⟩; subst w5) | (go_at_call 47; refine HB47.out.mono ?_; rintro e w5 ⟨rfl, hw⟩; subst w5) | (go_at_call 48; refine HB48.out.mono ?_; rintro e w5 ⟨rfl, hw⟩; subst w5) | (go_at_call 12; go_loud (refine HBY.out.mono ?_; rintro e w5 ⟨rfl, ⟨nq2, rfl⟩⟩; obtain ⟨w6, Ax', hcp, hsl2, hat, hdd⟩ := HDS.out nq2; have HAT := Aside0.mk hat; have HDD := Aside0.mk hdd; clear hat hdd)))
        have hdd := HDD.out
        rw [← HST.out] at hdd
        go_roundg k1
        case measure => have := HK.out; omega
        case rel => exact ⟨i + 1, k + ln * wd, Ax', (by simp), rfl, ⟨by have := HK.out; omega⟩, ⟨by omega⟩, HAT, ⟨hdd⟩⟩
      · have c2b : decide ((i : Int) < (ds.length : Int)) = false := decide_eq_false c2
        go_wp2
        go_ret
        have hi : i = ds.length := by have := HI.out; omega
        have hd := HDx.out
        have hall : joinB wd (xs.take i) = joinB wd xs := by rw [hi, HL.out, List.take_length]
        rw [hall] at hd
        have hk : k = n := by have := hd.hk; rw [HJ.out] at this; exact this.symm
        subst hk
        exact ⟨rfl, D, m, ⟨A0, hd⟩, hz⟩
end Go.Proofs.Ytgccaabpckfhlaa.Q
