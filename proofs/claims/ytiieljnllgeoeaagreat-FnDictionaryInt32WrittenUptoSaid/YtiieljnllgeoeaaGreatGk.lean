/- The encoder by a dictionary: its bytes, handed over. -/
import Derived.Test.YtiieljnllgeoeaaGreatGj
import Derived.Test.YtiieljnllgeoeaaGreatQDKa
namespace Go.Proofs.YtiieljnllgeoeaaGreat.Q
open Go.RowKit Go.Proofs.YtiieljnllgeoeaaGreatW.PrintWords Go.Proofs.YtiieljnllgeoeaaGreatW.PrintLast Go.Proofs.YtiieljnllgeoeaaGreatW.PrintMore
set_option linter.unusedVariables false
set_option linter.unusedSimpArgs false
theorem c_of_row {w : World} {D : Nat} {l : List Int} (h : Row w D l) (n : Nat) (hn : n ≤ l.length) (hm : l.length ≤ 16777216) : Kd.C (Kd.int .u8) w (some ⟨D, 0, none⟩) (l.take n).length (l.take n) := by
 have hl : (l.take n).length = n := by simp; omega
 refine Kd.C_of_reads (enc := Value.int .u8) (d := (0 : Int)) (h1 := fun _ => rfl) ⟨rfl, by omega, fun _ => ⟨_, rfl, fun j hj => ?_⟩⟩
 have e : (⟨D, 0, none⟩ : Addr).add j = ⟨D, j, none⟩ := by simp [Addr.add]; omega
 rw [e, h.cell j (by omega), List.getD_eq_getElem?_getD, List.getD_eq_getElem?_getD, List.getElem?_take, if_pos (by omega)]

set_option maxRecDepth 100000 in
theorem sliceTo_b (D i n : Nat) (hi : i ≤ n) (hn : n ≤ 16777216) (W : World) : (Instr.sliceAt 23 (.slice (some ⟨D, 0, none⟩) n n) none (some (.int .i64 (i : Int))) none).run Tryz.prog W = .ok (.slice (some ⟨D, 0, none⟩) i n) W := by
 rw [run_sliceAt_slice W 23 _ _ _ _ Tryz.underlying23, run_slice_h W 23 (some ⟨D, 0, none⟩) n n Tryz.underlying23 .i64 (i : Int) (by omega) (by omega)]
 have hsz : (sizeOf (Tryz.prog.elem 23)).run Tryz.prog W = .ok 1 W := by kernel_rfl
 rw [hsz]
 simp only [Result.andThen, sliced, Int.toNat_natCast]
 by_cases c : n = 0
 ·rw [if_pos c]; simp
 ·rw [if_neg c]; simp [Addr.add]
set_option maxHeartbeats 2000000 in
set_option maxRecDepth 100000 in
theorem bytes_calls (B D : Nat) (l : List Int) (pos G : Nat) (w : World) (h : IsBuf w B D l pos G) (hp : pos ≤ l.length) (hl : l.length ≤ 16777216) :
  Calls Tryz.prog 128 #[.pointer (some ⟨B, 0, none⟩)] w fun e w' => e = .returned (.slice (some ⟨D, 0, none⟩) pos l.length) ∧ Drawn0 w w' := by
 have r1 : w.cell? ⟨B, 1, none⟩ = some (.slice (some ⟨D, 0, none⟩) l.length l.length) := (blk_cell h.1 1).trans rfl
 have r2 : w.cell? ⟨B, 2, none⟩ = some (.int .i64 (pos : Int)) := (blk_cell h.1 2).trans rfl
 have hsl := sliceTo_b D pos l.length hp hl
 clear h
 go_enter Tryz.func128, Tryz.ntmps128
 go_wp2
 go_quiet (fail)
 go_wp2
 go_ret
 exact ⟨rfl, ⟨_, rfl⟩⟩
set_option maxHeartbeats 2000000 in
set_option maxRecDepth 100000 in
theorem pbytes_calls (B D : Nat) (l : List Int) (pos G : Nat) (w : World) (h : IsBuf w B D l pos G) (hp : pos ≤ l.length) (hl : l.length ≤ 16777216) :
  Calls Tryz.prog 172 #[.agg #[.pointer (some ⟨B, 0, none⟩)]] w fun e w' => e = .returned (.slice (some ⟨D, 0, none⟩) pos l.length) ∧ IsBuf w' B D l pos G ∧ Below w.heap.size w w' := by
 have HB := Aside0.mk (bytes_calls B D l pos G (w.alloc (.cells #[.pointer (some ⟨B, 0, none⟩)] 106)) ⟨blk_alloc h.1 _, blk_alloc h.2 _⟩ hp hl)
 have H := Aside0.mk h
 clear h
 go_enter Tryz.func172, Tryz.ntmps172
 go_wp2_with (first | (go_at_call 128; refine HB.out.mono ?_; rintro e w1 ⟨rfl, ⟨n, hw⟩⟩; subst w1))
 go_ret
 exact ⟨rfl, ⟨blk_alloc H.out.1 _, blk_alloc H.out.2 _⟩, pw_below_drewN (below_alloc (Below.refl _ _) _) _⟩
set_option maxHeartbeats 2000000 in
set_option maxRecDepth 100000 in
theorem flushed_calls (B D : Nat) (l : List Int) (pos G : Nat) (w : World) (h : IsBuf w B D l pos G) (hp : pos ≤ l.length) (hl : l.length ≤ 16777216) :
  Calls Tryz.prog 20 #[.iface 106 (.agg #[.pointer (some ⟨B, 0, none⟩)]), .nilIface] w fun e w' => ∃ v0_ : Value, e = .returned (.tuple #[v0_, .bool true]) ∧ Kd.R (Kd.int .u8) 5 w' w.heap.size (fun _ => True) v0_ (l.take pos) ∧ Below w.heap.size w w' := by
 have HP := Aside0.mk (pbytes_calls B D l pos G w h hp hl)
 have hlen : (l.take pos).length = pos := by simp; omega
 have HC := Aside0.mk (fun W (hW : IsBuf W B D l pos G) => show Calls Tryz.prog 35 #[.slice (some ⟨D, 0, none⟩) pos l.length] W fun e w' => ∃ v0_ : Value, e = .returned (v0_) ∧ Kd.R (Kd.int .u8) 5 w' W.heap.size (fun _ => True) v0_ (l.take pos) ∧ Below W.heap.size W w' from by
  have := impl_copied.calls (some ⟨D, 0, none⟩) l.length (l.take pos) (l.take pos) W (c_of_row hW.2 pos hp hl) (by omega) (by unfold impl_copied.f; simp; omega)
  rwa [hlen] at this)
 clear h
 go_enter Tryz.func20, Tryz.ntmps20
 go_wp2_with (first | (go_at_call 172; refine HP.out.mono ?_; rintro e w1 ⟨rfl, e1, e2⟩; have E1 := Aside0.mk e1; have E2 := Aside0.mk e2; clear e1 e2) | (go_at_call 35; refine (HC.out _ E1.out).mono ?_; rintro e w2 ⟨v0, rfl, f1, f2⟩; have F1 := Aside0.mk f1; have F2 := Aside0.mk f2; clear f1 f2))
 go_ret2
 exact ⟨v0, rfl, Kd.R_lower F1.out E2.out.size, E2.out.trans (F2.out.mono E2.out.size)⟩
theorem Dc.keep {w w' : World} {lo E T H M : Nat} {es : List Ent} {n S : Nat} {ds : Int} {iv : Value} {raw : Int} (h : Dc w lo E T H M es n S ds iv raw) (f : ∀ g, g < w.heap.size → w'.heap[g]? = w.heap[g]?) : Dc w' lo E T H M es n S ds iv raw :=
 ⟨(f _ (blk_lt h.e)).trans h.e, h.le, ⟨(f _ (blk_lt h.mm.t)).trans h.mm.t, h.mm.lt, ⟨(f _ (blk_lt h.mm.tab.h)).trans h.mm.tab.h, (f _ (blk_lt h.mm.tab.m)).trans h.mm.tab.m, h.mm.tab.lh, h.mm.tab.lm⟩⟩⟩
theorem Ix.keep {w w' : World} {lo I c : Nat} {V : List Nat} (h : Ix w lo I c V) (f : ∀ g, g < w.heap.size → w'.heap[g]? = w.heap[g]?) : Ix w' lo I c V := by
 obtain ⟨cs, hr, ht, hs⟩ := h.r
 exact ⟨⟨cs, (f _ (blk_lt hr)).trans hr, ht, hs⟩, h.le, h.lo⟩
/-- What is handed over: a buffer of so many bytes. -/
def Out (w' : World) (B D G : Nat) (n : Nat) (V : List Nat) : Prop := ∃ dn z r, (dn = enc (wdof n) V ∧ Runs (wdof n) dn (V ++ List.replicate z 0)) ∧ IsBuf w' B D (((wdof n : Nat) : Int) :: (dn ++ List.replicate r 0)) ((dn.length + 1 : Nat) : Int) G ∧ dn.length + r ≤ 1000000
set_option maxHeartbeats 4000000 in
set_option maxRecDepth 100000 in
theorem fvals_calls {w : World} {lo E T H M : Nat} {es : List Ent} {n S : Nat} {ds : Int} {I c : Nat} {raw : Int} {V : List Nat} (h : Dc w lo E T H M es n S ds (.slice (some ⟨I, 0, none⟩) V.length c) raw) (hI : Ix w lo I c V) (h0 : 0 < n) (hn : n ≤ 1000) (hV : ∀ v ∈ V, v < n) (hl : V.length ≤ 1000) :
  Calls Tryz.prog 21 #[.pointer (some ⟨E, 0, none⟩)] w fun e w' => ∃ B D G, e = .returned (.tuple #[.iface 106 (.agg #[.pointer (some ⟨B, 0, none⟩)]), .nilIface]) ∧ Out w' B D G n V ∧ w.heap.size ≤ B ∧ Below lo w w' ∧ ∀ g, g < w.heap.size → g ≠ E → w'.heap[g]? = w.heap[g]? := by
 have hlo : lo ≤ w.heap.size := Nat.le_of_lt (Nat.lt_of_le_of_lt h.le (blk_lt h.e))
 obtain ⟨hw1, hw2, hw3⟩ := wdof_b n h0 hn
 obtain ⟨he1, he2, he3⟩ := est_b (wdof n) V.length hw2 hl
 have HN := Aside0.mk (newbuf_calls w)
 obtain ⟨w1, hw1e⟩ : ∃ w1, w1 = (w.alloc (.cells #[] 175)).alloc (bufO (.slice none 0 0) 0 w.heap.size) := ⟨_, rfl⟩
 rw [← hw1e] at HN
 have hb1 : w1.heap[w.heap.size + 1]? = some (bufO (.slice none 0 0) 0 w.heap.size) := by rw [hw1e]; exact blk_at _ _ _ (by simp)
 have k1 : ∀ g, g < w.heap.size → w1.heap[g]? = w.heap[g]? := by
  intro g hg
  rw [hw1e]
  exact (below_alloc (below_alloc (Below.refl w.heap.size w) _) _).block g hg
 have d1 := h.keep k1
 have i1 := hI.keep k1
 have b1 : Below w.heap.size w w1 := by rw [hw1e]; exact below_alloc (below_alloc (Below.refl _ _) _) _
 have hs1 : w1.heap.size = w.heap.size + 2 := by rw [hw1e]; simp
 have HE := Aside0.mk (est_calls d1 h0 hn hl)
 have HR := Aside0.mk (fun k => reserve_first (w.heap.size + 1) (est (wdof n) V.length) w.heap.size (by omega) (w1.drewN k) (by omega) hb1)
 have HD := Aside0.mk (And.intro h (And.intro hI (And.intro b1 (And.intro hs1 (And.intro hlo k1)))))
 have HQ := Aside0.mk (And.intro h0 (And.intro hn (And.intro hV (And.intro hl (And.intro he2 he3)))))
 have HD2 := Aside0.mk hlo
 clear h hI h0 hn hV hl hlo hw1 hw2 hw3 he1 he2 he3 hb1 k1 d1 i1 b1 hs1 hw1e
 go_enter Tryz.func21, Tryz.ntmps21
 go_upto_region 3 with (first | (go_at_call 36; go_loud (with_reducible refine HN.out.mono ?_; rintro e w2 ⟨rfl, hw2⟩; subst w2)) | (go_at_call 38; go_loud (with_reducible refine HE.out.mono ?_; rintro e w3 ⟨rfl, k, rfl⟩)) | (go_at_call 37; go_loud (with_reducible refine (HR.out _).mono ?_; rintro e w4 ⟨rfl, m, e1, e2, e3, e4, e5⟩; have EE := Aside0.mk (And.intro e1 (And.intro e2 (And.intro e3 (And.intro e4 e5)))); clear e1 e2 e3 e4 e5)))
 obtain ⟨e1, e2, e3, e4, e5⟩ := EE.out
 obtain ⟨h, hI, b1, hs1, hlo, k1⟩ := HD.out
 have k4 : ∀ g, g < w.heap.size → w4.heap[g]? = w.heap[g]? := fun g hg => (e5.block g (by omega)).trans (k1 g hg)
 have d4 := h.keep k4
 have i4 := hI.keep k4
 have b4 : Below lo w w4 := (b1.mono hlo).trans ((pw_below_drewN (Below.refl _ _) k).trans (e5.mono (by omega)))
 obtain ⟨m, rfl⟩ : ∃ q, m = q + 1 := ⟨m - 1, by have := HQ.out.2.2.2.2.2; omega⟩
 have hX := e3.2
 have hBf := buf_calls _ _ _ _ _ w4 e3
 rw [List.length_replicate] at hBf
 have hlX : w.heap.size ≤ (w1.drewN k).heap.size := by show w.heap.size ≤ w1.heap.size; omega
 have hwx := windex_calls d4 i4 HQ.out.1 HQ.out.2.1 HQ.out.2.2.1 HQ.out.2.2.2.1 hX e1 (by have := HQ.out.2.2.2.2.1; omega) w.heap.size hlo b4.size hlX
 have hb4 := e3.1
 have hm2 : m ≤ 1000000 := by have := HQ.out.2.2.2.2.1; omega
 generalize (w1.drewN k).heap.size = X at hBf hwx hb4
 have HBF := Aside0.mk hBf
 have HWX := Aside0.mk hwx
 have HB4 := Aside0.mk (And.intro hb4 (And.intro b4 (And.intro hm2 k4)))
 clear e1 e2 e3 e4 e5 h hI b1 hs1 hlo k1 k4 d4 i4 b4 hX hBf hlX hwx hb4 hm2 EE HD HE HR HN
 go_wp2_with (first | (go_at_call 40; go_loud (with_reducible refine HBF.out.mono ?_; rintro e w5 ⟨rfl, hw5⟩; subst w5)) | (go_at_call 39; go_loud (with_reducible refine HWX.out.mono ?_; rintro e w6 ⟨dn, z, rfl, t1, t2, t3, t4, t5, t6⟩; have T6 := Aside0.mk (And.intro t1 (And.intro t2 (And.intro t3 (And.intro t4 (And.intro t5 t6))))); clear t1 t2 t3 t4 t5 t6)))
 obtain ⟨t1, t2, t3, t4, t5, t6⟩ := T6.out
 obtain ⟨hb4, b4, hm2, k4⟩ := HB4.out
 have K6 := Aside0.mk (fun g (hg : g < w.heap.size) (hne : g ≠ E) => (t6 g hg hne).trans (k4 g hg))
 clear t6 k4
 have hll : (((wdof n : Nat) : Int) :: (dn ++ List.replicate (m - dn.length) 0)).length = m + 1 := by simp; omega
 have hbuf : IsBuf w6 (w.heap.size + 1) X (((wdof n : Nat) : Int) :: (dn ++ List.replicate (m - dn.length) 0)) 0 w.heap.size := by
  refine ⟨?_, t3⟩
  rw [hll]
  rw [List.length_replicate] at hb4
  exact t5.keep _ 131 _ hb4 (by decide) (by decide) (by decide) (by decide) (by decide)
 have hrs := resizens_calls _ _ _ _ _ (dn.length + 1) w6 hbuf (by rw [hll]; omega) (by rw [hll]; omega)
 rw [show ((dn.length + 1 : Nat) : Int) = (dn.length : Int) + 1 by omega] at hrs
 have HRS := Aside0.mk hrs
 have HBU := Aside0.mk (And.intro hbuf (And.intro t1 (And.intro t2 (And.intro (b4.trans t5.below) (And.intro hm2 HD2.out)))))
 clear t1 t2 t3 t4 t5 hb4 b4 hm2 hll hbuf hrs T6 HB4 HWX HBF
 go_wp2_with (first | (go_at_call 42; go_loud (with_reducible refine HRS.out.mono ?_; rintro e w7 ⟨rfl, hw7⟩; subst w7)))
 go_ret2
 obtain ⟨hbuf, t1, t2, b6, hm2, hlo⟩ := HBU.out
 refine ⟨_, X, w.heap.size, rfl, ⟨dn, z, m - dn.length, t1, ⟨?_, ?_⟩, by omega⟩, by omega, Below.setCell (p := ⟨w.heap.size + 1, 2, none⟩) b6 (by show lo ≤ w.heap.size + 1; omega) _, fun g hg hne => (Below.heap_setCell _ ⟨w.heap.size + 1, 2, none⟩ _ g (show g ≠ w.heap.size + 1 by omega)).trans (K6.out g hg hne)⟩
 ·exact blk_set hbuf.1 2 _
 ·exact blk_far hbuf.2 (p := ⟨w.heap.size + 1, 2, none⟩) (blk_ne hbuf.2 hbuf.1 (by decide)) _
end Go.Proofs.YtiieljnllgeoeaaGreat.Q
