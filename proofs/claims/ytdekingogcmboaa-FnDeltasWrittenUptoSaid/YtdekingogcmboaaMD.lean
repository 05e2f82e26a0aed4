/- Several texts of ours in one: Fo, Fp, Fq. -/
import Derived.Test.YtdekingogcmboaaMC
/- The head's writer: over a row of 32 bytes. -/
namespace Go.Proofs.Ytdekingogcmboaa.Q
open Go.RowKit Go.Proofs.YtdekingogcmboaaW.PrintWords Go.Proofs.YtdekingogcmboaaW.PrintLast Go.Proofs.YtdekingogcmboaaW.PrintMore
set_option linter.unusedVariables false
set_option linter.unusedSimpArgs false
def Hd (w : World) (base Wh Bh X : Nat) (done : List Int) : Prop :=
  ∃ rs, Bw w Wh (.iface 105 (.pointer (some ⟨Bh, 0, none⟩))) 0 done.length 0 rs ∧ w.heap[Bh]? = some (.cells #[.slice (some ⟨X, 0, none⟩) 32 32] 107 (0, 0)) ∧ Row w X (done ++ List.replicate (32 - done.length) 0) ∧ done.length ≤ 32 ∧ base ≤ Wh ∧ base ≤ Bh ∧ base ≤ X
set_option maxHeartbeats 2000000 in
set_option maxRecDepth 100000 in
theorem flush0_calls {w : World} {W : Nat} {i : Value} {byo : Nat} {rs : List Int} (h : Bw w W i 0 byo 0 rs) (hl : byo ≤ 4000000) :
    Calls Try.prog 31 #[.pointer (some ⟨W, 0, none⟩), .bool true] w fun e w' => e = .returned (.tuple #[]) ∧ Bw w' W i 0 byo 0 rs ∧ Kept w w' (fun k => k = W) ∧ Below W w w' := by
  have d1 := h.s1 0
  have d2 := d1.s2 byo
  have d3 := d2.s3 0
  have r3 : w.cell? ⟨W, 3, none⟩ = some (.int .u64 0) := h.c3
  have r2 := h.c2
  have r1 := h.c1
  have z1 := h.f 1
  have z2 := h.f 2
  have z3 := h.f 3
  have D3 := Aside0.mk d3
  clear h d1 d2 d3
  go_enter Try.func31, Try.ntmps31
  go_wp2
  go_end0
  exact ⟨rfl, D3.out, (((Kept.refl w (fun k => k = W)).setCell (.inl rfl) _).setCell (.inl rfl) _).setCell (.inl rfl) _, Below.setCell (p := ⟨W, 3, none⟩) (Below.setCell (p := ⟨W, 2, none⟩) (Below.setCell (p := ⟨W, 1, none⟩) (Below.refl _ _) (Nat.le_refl _) _) (Nat.le_refl _) _) (Nat.le_refl _) _⟩
set_option maxHeartbeats 2000000 in
set_option maxRecDepth 100000 in
theorem flushn_calls {w : World} {W : Nat} {i : Value} {byo : Nat} {rs : List Int} (h : Bw w W i 0 byo 0 rs) :
    Calls Try.prog 31 #[.pointer (some ⟨W, 0, none⟩), .bool false] w fun e w' => e = .returned (.tuple #[]) ∧ w' = w := by
  have r3 : w.cell? ⟨W, 3, none⟩ = some (.int .u64 0) := h.c3
  clear h
  go_enter Try.func31, Try.ntmps31
  go_wp2
  go_end0
  exact ⟨rfl, rfl⟩
set_option maxHeartbeats 2000000 in
set_option maxRecDepth 100000 in
/-- A write into the row. -/
theorem wab_calls (Bh X : Nat) (l : List Int) (a : Addr) (c : Nat) (cs : List Int) (off : Nat) (w : World) (hB : w.heap[Bh]? = some (.cells #[.slice (some ⟨X, 0, none⟩) 32 32] 107 (0, 0))) (hX : Row w X l) (hl : l.length = 32) (h0 : 0 < cs.length) (ho : off + cs.length ≤ 32) (hs : Src w a cs) :
    Calls Try.prog 112 #[.pointer (some ⟨Bh, 0, none⟩), .slice (some a) cs.length c, .int .i64 (off : Int)] w fun e w' => (∃ n, e = .returned (.tuple #[.int .i64 n, .nilIface])) ∧ Row w' X (l.take off ++ cs ++ l.drop (off + cs.length)) ∧ Kept w w' (fun k => k = X) ∧ Below X w w' := by
  have r0 : w.cell? ⟨Bh, 0, none⟩ = some (.slice (some ⟨X, 0, none⟩) 32 32) := (blk_cell hB 0).trans rfl
  have hsl := sliceAt_b X off 32 (by omega) (by omega)
  rw [if_neg (by omega)] at hsl
  obtain ⟨w3, hcp, e1, e2, e3, e4⟩ := copy_bytes w X off (32 - off) (32 - off) a cs.length c l cs hX (by show _ = min _ _; omega) hs (by omega)
  have hd1 : decide ((off : Int) > 32) = false := decide_eq_false (by omega)
  have hd2 : decide ((cs.length : Int) < (cs.length : Int)) = false := decide_eq_false (by omega)
  have X := Aside0.mk (And.intro e1 (And.intro e2 (And.intro e3 e4)))
  clear e1 e2 e3 e4 hB hX hs hl
  go_enter Try.func112, Try.ntmps112
  go_wp2
  go_ret2
  obtain ⟨e1, e2, e3, e4⟩ := X.out
  exact ⟨⟨_, rfl⟩, e1, ⟨by omega, fun i hi hn => e3 i hn⟩, e4⟩
set_option maxHeartbeats 4000000 in
set_option maxRecDepth 100000 in
theorem hvlq_calls {w : World} {base Wh Bh X : Nat} {done : List Int} (n : Nat) (h : Hd w base Wh Bh X done) (hn : n < 18446744073709551616) (hl : done.length + (leb n).length ≤ 32) :
    Calls Try.prog 33 #[.pointer (some ⟨Wh, 0, none⟩), .int .u64 (n : Int)] w fun e w' => e = .returned (.bool true) ∧ Hd w' base Wh Bh X (done ++ leb n) ∧ Below base w w' := by
  obtain ⟨rs, hb, hB, hX, hd, l1, l2, l3⟩ := h
  have n1 := blk_ne hb.1 hB (by decide)
  have n2 := blk_ne hb.1 hX (by decide)
  have n3 := blk_ne hB hX (by decide)
  have HF := Aside0.mk (flush0_calls hb (by omega))
  have hlb := leb_len 10 n (by omega) (by omega)
  have HLB := Aside0.mk hlb
  have HN := Aside0.mk hn
  have HB := Aside0.mk hB
  have HX := Aside0.mk hX
  have HL := Aside0.mk (And.intro hd hl)
  have HNE := Aside0.mk (And.intro n1 (And.intro n2 n3))
  have HLO := Aside0.mk (And.intro l1 (And.intro l2 l3))
  clear hb hB hX hd hl n1 n2 n3 hlb hn l1 l2 l3
  go_enter Try.func33, Try.ntmps33
  go_upto_region 3 with (first | (go_at_call 31; refine HF.out.mono ?_; rintro e w1 ⟨rfl, b1, k1, f1⟩; have HU := Aside0.mk (putuv_calls Wh _ _ _ _ rs n w1 b1 HN.out); have B1 := Aside0.mk b1; have K1 := Aside0.mk (And.intro k1 f1); clear b1 k1 f1) | (go_at_call 48; refine HU.out.mono ?_; rintro e w2 ⟨rfl, ⟨rs2, u1, u2⟩, u3, u4⟩; have k2 := K1.out.1.then_ u3 (fun k hk => .inl hk); have f2 := K1.out.2.trans u4; have hB2 := (k2.2 Bh (blk_lt HB.out) (fun e => HNE.out.1 e.symm)).trans HB.out; have hX2 : Row w2 X _ := (k2.2 X (blk_lt HX.out) (fun e => HNE.out.2.1 e.symm)).trans HX.out; have r0 := u1.c0; have r2 := u1.c2; have hsl := slice_buf Wh (leb n).length HLB.out.2; have HW := Aside0.mk (wab_calls Bh X _ ⟨Wh, 12, none⟩ 10 (leb n) done.length (w2.drewN 1) hB2 hX2 (by have := HL.out.1; simp; omega) HLB.out.1 HL.out.2 (src_buf (w := w2.drewN 1) (⟨u1.1, u1.2⟩ : Bw (w2.drewN 1) _ _ _ _ _ _) u2 HLB.out.2)); have U2 := Aside0.mk (And.intro u1 (And.intro hB2 (And.intro k2 f2))); clear u1 u2 u3 u4 k2 f2 hB2 hX2))
  go_region_held3 (fun w' => w'.cell? ⟨Wh, 0, none⟩ = some (.iface 105 (.pointer (some ⟨Bh, 0, none⟩))) ∧ w'.cell? ⟨Wh, 2, none⟩ = some (.int .i64 (done.length : Int))) (go_keep) (first | (go_at_call 112; go_loud (refine HW.out.mono ?_; rintro e w3 ⟨⟨m, rfl⟩, p1, p2, p3⟩; have b3 : Bw w3 Wh _ _ _ _ _ := Bw.kept (w := w2.drewN 1) (⟨U2.out.1.1, U2.out.1.2⟩ : Bw (w2.drewN 1) _ _ _ _ _ _) p2 HNE.out.2.1; have q0 := b3.c0; have q2 := b3.c2; have z2 := b3.f 2; have B3 := Aside0.mk (And.intro b3 (And.intro p1 (And.intro p2 p3))); clear b3 p1 p2 p3)))
  go_wp2
  go_ret
  obtain ⟨b3, p1, p2, p3⟩ := B3.out
  obtain ⟨u1, hB2, k2, f2⟩ := U2.out
  obtain ⟨n1, n2, n3⟩ := HNE.out
  obtain ⟨l1, l2, l3⟩ := HLO.out
  obtain ⟨hd, hl⟩ := HL.out
  have hw : wrap64 ((done.length : Int) + ((leb n).length : Int)) = (((done ++ leb n).length : Nat) : Int) := by have := HLB.out.2; unfold wrap64; simp; omega
  rw [hw]
  have hB3 : w3.heap[Bh]? = _ := (p2.2 Bh (blk_lt hB2) n3).trans hB2
  have hrow : (done ++ List.replicate (32 - done.length) 0).take done.length ++ leb n ++ (done ++ List.replicate (32 - done.length) 0).drop (done.length + (leb n).length) = (done ++ leb n) ++ List.replicate (32 - (done ++ leb n).length) 0 := by
    have e1 : List.drop (done.length + (leb n).length) done = [] := List.drop_eq_nil_of_le (by omega)
    rw [List.take_left, List.drop_append, e1, List.nil_append, show done.length + (leb n).length - done.length = (leb n).length by omega, List.drop_replicate, List.length_append, Nat.sub_sub]
  rw [hrow] at p1
  refine ⟨rfl, ⟨_, b3.s2 _, blk_far hB3 (p := ⟨Wh, 2, none⟩) (Ne.symm n1) _, blk_far p1 (p := ⟨Wh, 2, none⟩) (Ne.symm n2) _, by simp; omega, l1, l2, l3⟩, ?_⟩
  exact Below.setCell (p := ⟨Wh, 2, none⟩) ((f2.mono l1).trans ((pw_below_drewN (Below.refl _ _) 1).trans (p3.mono l3))) l1 _
set_option maxHeartbeats 4000000 in
set_option maxRecDepth 100000 in
theorem hzig_calls {w : World} {base Wh Bh X : Nat} {done : List Int} (v : Int) (h : Hd w base Wh Bh X done) (hv : -9223372036854775808 ≤ v) (hv2 : v ≤ 9223372036854775807) (hl : done.length + (leb (zz v)).length ≤ 32) :
    Calls Try.prog 34 #[.pointer (some ⟨Wh, 0, none⟩), .int .i64 v] w fun e w' => e = .returned (.bool true) ∧ Hd w' base Wh Bh X (done ++ leb (zz v)) ∧ Below base w w' := by
  have HV := Aside0.mk (hvlq_calls (zz v) h (by unfold zz; split <;> omega) hl)
  have hz := zz_is v hv hv2
  clear h hl
  go_enter Try.func34, Try.ntmps34
  go_wp2_with (first | (go_at_call 33; with_reducible refine HV.out.mono ?_; rintro e w1 ⟨rfl, h1, h2⟩; have H1 := Aside0.mk (And.intro h1 h2); clear h1 h2))
  go_ret
  exact ⟨rfl, H1.out⟩
end Go.Proofs.Ytdekingogcmboaa.Q

/- The sink handed over; a buffer let go. -/
namespace Go.Proofs.Ytdekingogcmboaa.Q
open Go.RowKit Go.Proofs.YtdekingogcmboaaW.PrintWords Go.Proofs.YtdekingogcmboaaW.PrintLast Go.Proofs.YtdekingogcmboaaW.PrintMore
set_option linter.unusedVariables false
set_option linter.unusedSimpArgs false
set_option maxHeartbeats 2000000 in
set_option maxRecDepth 100000 in
theorem reset_calls (S : Nat) (w : World) (h : w.heap[S]? = some (sink0 0)) :
    Calls Try.prog 51 #[.pointer (some ⟨S, 0, none⟩), .int .i64 0] w fun e w' => e = .returned (.tuple #[]) ∧ Kept w w' (fun k => k = S) ∧ Below S w w' := by
  have s0 : w.cell? ⟨S, 0, none⟩ = some (.pointer none) := (blk_cell h 0).trans rfl
  have s1 : w.cell? ⟨S, 1, none⟩ = some (.int .i64 0) := (blk_cell h 1).trans rfl
  have s2 : w.cell? ⟨S, 2, none⟩ = some (.int .i64 0) := (blk_cell h 2).trans rfl
  have z1 : w.frozen? ⟨S, 1, none⟩ = false := blk_frozen h 1
  have z2 : w.frozen? ⟨S, 2, none⟩ = false := blk_frozen h 2
  have HR := Aside0.mk (reserve_new0 S ((w.setCell ⟨S, 1, none⟩ (.int .i64 0)).setCell ⟨S, 2, none⟩ (.int .i64 0)) (blk_set (blk_set h 1 (.int .i64 0)) 2 (.int .i64 0)))
  have hk : Kept w ((w.setCell ⟨S, 1, none⟩ (.int .i64 0)).setCell ⟨S, 2, none⟩ (.int .i64 0)) (fun k => k = S) := ((Kept.refl w (fun k => k = S)).setCell (.inl rfl) _).setCell (.inl rfl) _
  have hb : Below S w ((w.setCell ⟨S, 1, none⟩ (.int .i64 0)).setCell ⟨S, 2, none⟩ (.int .i64 0)) := Below.setCell (p := ⟨S, 2, none⟩) (Below.setCell (p := ⟨S, 1, none⟩) (Below.refl _ _) (Nat.le_refl _) _) (Nat.le_refl _) _
  have HK := Aside0.mk hk
  have HB := Aside0.mk hb
  clear h hk hb
  go_enter Try.func51, Try.ntmps51
  go_wp2_with (first | (go_at_call 52; refine HR.out.mono ?_; rintro e w1 ⟨rfl, e1, e2⟩; have E1 := Aside0.mk e1; have E2 := Aside0.mk e2; clear e1 e2))
  go_end0
  exact ⟨rfl, HK.out.then_ E1.out (fun k hk => .inl hk), HB.out.trans E2.out⟩
/-- What is left when the writer has ended. -/
def Ended (w w' : World) (S B D : Nat) (l : List Int) (q : Int) (G : Nat) : Prop := IsBuf w' B D l q G ∧ Kept w w' (fun k => k = S ∨ k = B) ∧ Below (min S B) w w'
theorem ended_tail {w W1 w4 : World} {S B D : Nat} {l : List Int} {q : Int} {G : Nat} (hne : S ≠ B ∧ S ≠ D ∧ B ≠ D) (hs : W1.heap[S]? = some (sinkO B 0)) (hb : IsBuf W1 B D l q G)
    (hk : Kept w W1 (fun k => k = S ∨ k = B)) (hbe : Below (min S B) w W1)
    (e1 : Kept ((W1.setCell ⟨S, 0, none⟩ (.pointer none)).alloc (.cells #[.pointer (some ⟨B, 0, none⟩)] 89)) w4 (fun k => k = S)) (e2 : Below S ((W1.setCell ⟨S, 0, none⟩ (.pointer none)).alloc (.cells #[.pointer (some ⟨B, 0, none⟩)] 89)) w4) :
    w4.cell? ⟨W1.heap.size, 0, none⟩ = some (.pointer (some ⟨B, 0, none⟩)) ∧ Ended w w4 S B D l q G := by
  obtain ⟨n1, n2, n3⟩ := hne
  have hS := blk_lt hs
  have hB := blk_lt hb.1
  have hD := blk_lt hb.2
  have hz : (W1.setCell ⟨S, 0, none⟩ (.pointer none)).heap.size = W1.heap.size := by simp
  have hn := blk_new (W1.setCell ⟨S, 0, none⟩ (.pointer none)) (.cells #[.pointer (some ⟨B, 0, none⟩)] 89)
  rw [hz] at hn
  have hsz : ((W1.setCell ⟨S, 0, none⟩ (.pointer none)).alloc (.cells #[.pointer (some ⟨B, 0, none⟩)] 89)).heap.size = W1.heap.size + 1 := by simp
  have f1 : ((W1.setCell ⟨S, 0, none⟩ (.pointer none)).alloc (.cells #[.pointer (some ⟨B, 0, none⟩)] 89)).heap[B]? = _ := blk_alloc (blk_far hb.1 (p := ⟨S, 0, none⟩) (show B ≠ S by omega) (.pointer none)) _
  have f2 : ((W1.setCell ⟨S, 0, none⟩ (.pointer none)).alloc (.cells #[.pointer (some ⟨B, 0, none⟩)] 89)).heap[D]? = _ := blk_alloc (blk_far hb.2 (p := ⟨S, 0, none⟩) (show D ≠ S by omega) (.pointer none)) _
  have k1 : Kept W1 ((W1.setCell ⟨S, 0, none⟩ (.pointer none)).alloc (.cells #[.pointer (some ⟨B, 0, none⟩)] 89)) (fun k => k = S) := ((Kept.refl W1 (fun k => k = S)).setCell (.inl rfl) _).alloc _
  have b1 : Below S W1 ((W1.setCell ⟨S, 0, none⟩ (.pointer none)).alloc (.cells #[.pointer (some ⟨B, 0, none⟩)] 89)) := (Below.setCell (p := ⟨S, 0, none⟩) (Below.refl _ _) (Nat.le_refl _) _).trans ((below_alloc (Below.refl _ _) _).mono (by show S ≤ _; rw [hz]; omega))
  refine ⟨?_, ⟨(e1.2 B (by omega) (by omega)).trans f1, (e1.2 D (by omega) (by omega)).trans f2⟩, ?_, ?_⟩
  · exact (blk_cell ((e1.2 W1.heap.size (by omega) (by omega)).trans hn) 0).trans rfl
  · exact (hk.then_ k1 (fun k hk => .inl (.inl hk))).then_ e1 (fun k hk => .inl (.inl hk))
  · exact hbe.trans ((b1.trans e2).mono (Nat.min_le_left _ _))
set_option maxHeartbeats 2000000 in
set_option maxRecDepth 100000 in
theorem finish_calls (S B D : Nat) (l : List Int) (q G : Nat) (w : World) (h : Snk w S B D l 0 (q : Int) G) :
    Calls Try.prog 36 #[.pointer (some ⟨S, 0, none⟩)] w fun e w' => e = .returned (.iface 89 (.agg #[.pointer (some ⟨B, 0, none⟩)])) ∧ Ended w w' S B D l q G := by
  have s0 : w.cell? ⟨S, 0, none⟩ = some (.pointer (some ⟨B, 0, none⟩)) := (blk_cell h.s 0).trans rfl
  have s1 : w.cell? ⟨S, 1, none⟩ = some (.int .i64 0) := (blk_cell h.s 1).trans rfl
  have z0 : w.frozen? ⟨S, 0, none⟩ = false := blk_frozen h.s 0
  have HL := Aside0.mk (show ∀ n, Calls Try.prog 49 #[.pointer (some ⟨B, 0, none⟩)] (w.drewN n) fun e w'' => e = .returned (.int .i64 (q : Int)) ∧ ∃ m, w'' = w.drewN m from fun n => (len_calls_b B _ q G (w.drewN n) h.b.1).mono (fun e w' h => ⟨h.1, n, h.2⟩))
  obtain ⟨n1, n2, n3⟩ := bufne h
  have hS := blk_lt h.s
  have hd : decide ((q : Int) < 0) = false := decide_eq_false (by omega)
  have HR := Aside0.mk (fun W => reset_calls S W)
  have H := Aside0.mk h
  have N := Aside0.mk (And.intro n1 (And.intro n2 n3))
  clear h n1 n2 n3
  go_enter Try.func36, Try.ntmps36
  go_wp2
  go_quiet (first | (go_at_call 49; exact HL.out _))
  have hs : (w.drewN nq).heap[S]? = some (sinkO B 0) := H.out.s
  have hb : IsBuf (w.drewN nq) B D l q G := H.out.b
  have hk : Kept w (w.drewN nq) (fun k => k = S ∨ k = B) := Kept.drewN (Kept.refl w _) nq
  have hbe : Below (min S B) w (w.drewN nq) := pw_below_drewN (Below.refl _ _) nq
  have hS1 : S < (w.drewN nq).heap.size := hS
  generalize w.drewN nq = W1 at hs hb hk hbe hS1 ⊢
  clear s0 s1 z0 hS
  have s0 : W1.cell? ⟨S, 0, none⟩ = some (.pointer (some ⟨B, 0, none⟩)) := (blk_cell hs 0).trans rfl
  have z0 : W1.frozen? ⟨S, 0, none⟩ = false := blk_frozen hs 0
  have HS1 := Aside0.mk hs
  have HB1 := Aside0.mk hb
  have HK1 := Aside0.mk hk
  have HE1 := Aside0.mk hbe
  clear hs hb hk hbe
  go_wp2_with (first | (go_at_call 51; refine (HR.out _ (blk_alloc (blk_set HS1.out 0 (.pointer none)) _)).mono ?_; rintro e w4 ⟨rfl, e1, e2⟩; obtain ⟨c4, e4⟩ := ended_tail N.out HS1.out HB1.out HK1.out HE1.out e1 e2; have E4 := Aside0.mk e4; clear e1 e2 e4))
  go_ret
  exact ⟨rfl, E4.out⟩
set_option maxHeartbeats 2000000 in
set_option maxRecDepth 100000 in
theorem memset_calls (D : Nat) (l : List Int) (w : World) (h : Row w D l) (hl : l.length ≤ 16777216) :
    Calls Try.prog 62 #[.slice (some ⟨D, 0, none⟩) l.length l.length, .int .u8 0] w fun e w' => e = .returned (.tuple #[]) ∧ (∃ l', Row w' D l' ∧ l'.length = l.length) ∧ Kept w w' (fun k => k = D) ∧ Below D w w' := by
  have H := Aside0.mk h
  have HL := Aside0.mk hl
  clear h hl
  go_enter Try.func62, Try.ntmps62
  go_wp2
  go_loopg [4] (l.length + 1) (fun kq v4 w' => ∃ (i : Nat) (l' : List Int), v4 = .int .i64 (i : Int) ∧ Aside0 (i + kq = l.length + 1) ∧ Aside0 (i ≤ l.length) ∧ Aside0 (Row w' D l' ∧ l'.length = l.length) ∧ Aside0 (Kept w w' (fun k => k = D)) ∧ Aside0 (Below D w w'))
  case atStart => exact ⟨0, l, rfl, ⟨by omega⟩, ⟨by omega⟩, ⟨H.out, rfl⟩, ⟨Kept.refl _ _⟩, ⟨Below.refl _ _⟩⟩
  case round =>
    obtain ⟨i, l', rfl, HK, HI, HR, HE, HB⟩ := hrel
    obtain ⟨k1, rfl⟩ : ∃ k1, gk = k1 + 1 := ⟨gk - 1, by have := HK.out; have := HI.out; omega⟩
    by_cases c : i < l.length
    · have d1 : decide ((i : Int) < (l.length : Int)) = true := decide_eq_true (by omega)
      have q1 : (0 : Int) ≤ (i : Int) := by omega
      have q2 : (i : Int) < (l.length : Int) := by omega
      have hc := HR.out.1.cell i (by rw [HR.out.2]; exact c)
      have hz := blk_frozen HR.out.1 i
      have hw : IntKind.i64.wrap ((i : Int) + 1) = ((i + 1 : Nat) : Int) := by rw [IntKind.wrap_i64]; have := HL.out; omega
      have hset : Row (wr.setCell ⟨D, i, none⟩ (.int .u8 0)) D (l'.set i 0) := by
        have := blk_set HR.out.1 i (.int .u8 0)
        unfold Row
        rw [this, List.map_set]
        simp
      have HS := Aside0.mk hset
      clear hset c
      go_wp2
      go_roundg k1
      case measure => omega
      case rel => exact ⟨i + 1, l'.set i 0, by simp, ⟨by have := HK.out; omega⟩, ⟨by omega⟩, ⟨HS.out, by rw [List.length_set]; exact HR.out.2⟩, ⟨HE.out.setCell (.inl rfl) _⟩, ⟨Below.setCell (p := ⟨D, i, none⟩) HB.out (Nat.le_refl _) _⟩⟩
    · have hi : i = l.length := by have := HI.out; omega
      subst hi
      have d1 : decide ((l.length : Int) < (l.length : Int)) = false := decide_eq_false (by omega)
      clear c
      go_wp2
      go_end0
      exact ⟨rfl, ⟨l', HR.out.1, HR.out.2⟩, HE.out, HB.out⟩
set_option maxHeartbeats 2000000 in
set_option maxRecDepth 100000 in
theorem set_calls (D : Nat) (l : List Int) (w : World) (h : Row w D l) (hl : l.length ≤ 16777216) :
    Calls Try.prog 54 #[.slice (some ⟨D, 0, none⟩) l.length l.length, .int .u8 0] w fun e w' => e = .returned (.tuple #[]) ∧ (∃ l', Row w' D l' ∧ l'.length = l.length) ∧ Kept w w' (fun k => k = D) ∧ Below D w w' := by
  have HM := Aside0.mk (memset_calls D l w h hl)
  clear h hl
  go_enter Try.func54, Try.ntmps54
  go_wp2_with (first | (go_at_call 62; refine HM.out.mono ?_; rintro e w1 ⟨rfl, h1⟩; have H1 := Aside0.mk h1; clear h1))
  go_end0
  exact ⟨rfl, H1.out⟩
set_option maxHeartbeats 2000000 in
set_option maxRecDepth 100000 in
theorem mut_calls (B : Nat) (s : Value) (q : Int) (G : Nat) (w : World) (h : w.heap[B]? = some (bufO s q G)) :
    Calls Try.prog 107 #[.pointer (some ⟨B, 0, none⟩)] w fun e w' => e = .returned (.bool true) ∧ w' = w := by
  have r1 : w.cell? ⟨B, 3, none⟩ = some (.bool true) := (blk_cell h 3).trans rfl
  clear h
  go_enter Try.func107, Try.ntmps107
  go_wp2
  go_ret
  exact ⟨rfl, rfl⟩
set_option maxHeartbeats 2000000 in
set_option maxRecDepth 100000 in
theorem prel_calls (B D : Nat) (l : List Int) (q : Int) (G : Nat) (w : World) (u : FrameMode) (h : IsBuf w B D l q G) (hl : l.length ≤ 16777216) :
    CallsD Try.prog 105 #[.agg #[.pointer (some ⟨B, 0, none⟩)]] u w fun e u' w' => u' = u ∧ (e = .returned (.tuple #[]) ∧ Kept w w' (fun k => k = B ∨ k = D) ∧ Below (min B D) w w') := by
  have hbd := blk_ne h.1 h.2 (by decide)
  have n1 : IsBuf (w.alloc (.cells #[.pointer (some ⟨B, 0, none⟩)] 89)) B D l q G := ⟨blk_alloc h.1 _, blk_alloc h.2 _⟩
  have hN := blk_new w (.cells #[.pointer (some ⟨B, 0, none⟩)] 89)
  have kn : Kept w (w.alloc (.cells #[.pointer (some ⟨B, 0, none⟩)] 89)) (fun k => k = B ∨ k = D) := (Kept.refl w _).alloc _
  have bn : Below (min B D) w (w.alloc (.cells #[.pointer (some ⟨B, 0, none⟩)] 89)) := (below_alloc (Below.refl _ _) _).mono (by have := blk_lt h.1; omega)
  have HM := Aside0.mk (mut_calls B _ q G _ n1.1)
  have HB := Aside0.mk (buf_calls B D l q G _ n1)
  have HS := Aside0.mk (set_calls D l _ n1.2 hl)
  have HBL := Aside0.mk (And.intro (blk_lt h.1) (blk_lt h.2))
  have X := Aside0.mk (And.intro n1 (And.intro hN (And.intro kn (And.intro bn (And.intro hbd hl)))))
  have c0 : (w.alloc (.cells #[.pointer (some ⟨B, 0, none⟩)] 89)).cell? ⟨w.heap.size, 0, none⟩ = some (.pointer (some ⟨B, 0, none⟩)) := (blk_cell hN 0).trans rfl
  clear h n1 hN kn bn hbd hl
  go_enter_d Try.func105, Try.ntmps105
  go_wp2_with (first | (go_at_call 107; refine HM.out.mono ?_; rintro e w1 ⟨rfl, hw1⟩; subst w1) | (go_at_call 55; refine HB.out.mono ?_; rintro e w1 ⟨rfl, hw1⟩; subst w1) | (go_at_call 54; refine HS.out.mono ?_; rintro e w2 ⟨rfl, ⟨l', hl1, hl2⟩, hk2, hb2⟩; obtain ⟨n1, hN, kn, bn, hbd, hl⟩ := X.out; have hB2 := (hk2.2 B (blk_lt n1.1) hbd).trans n1.1; have hN2 := (hk2.2 w.heap.size (blk_lt hN) (by have := HBL.out.2; omega)).trans hN; have c2 : w2.cell? ⟨w.heap.size, 0, none⟩ = some (.pointer (some ⟨B, 0, none⟩)) := (blk_cell hN2 0).trans rfl; have n2 : IsBuf w2 B D l' q G := (And.intro (by rw [hl2]; exact hB2) hl1); have HZ := Aside0.mk (resizens_calls B D l' q G 0 w2 n2 (by omega) (by omega)); have X2 := Aside0.mk (And.intro hk2 hb2); clear n1 hN kn bn hbd hl hB2 hN2 n2 hk2 hb2 hl1 hl2) | (go_at_call 50; refine HZ.out.mono ?_; rintro e w3 ⟨rfl, hw3⟩; subst w3))
  refine bodyPost_ret (results_none rfl _ _ _) rfl ?_
  obtain ⟨n1, hN, kn, bn, hbd, hl⟩ := X.out
  obtain ⟨hk2, hb2⟩ := X2.out
  refine ⟨rfl, ?_, ?_⟩
  · exact (kn.then_ hk2 (fun k hk => .inl (.inr hk))).setCell (p := ⟨B, 2, none⟩) (.inl (.inl rfl)) (.int .i64 0)
  · exact Below.setCell (p := ⟨B, 2, none⟩) (bn.trans (hb2.mono (Nat.min_le_right _ _))) (Nat.min_le_left _ _) (.int .i64 0)
end Go.Proofs.Ytdekingogcmboaa.Q

/- Buffers handed over: their bytes. -/
namespace Go.Proofs.Ytdekingogcmboaa.Q
open Go.RowKit Go.Proofs.YtdekingogcmboaaW.PrintWords Go.Proofs.YtdekingogcmboaaW.PrintLast Go.Proofs.YtdekingogcmboaaW.PrintMore
set_option linter.unusedVariables false
set_option linter.unusedSimpArgs false
set_option maxHeartbeats 2000000 in
set_option maxRecDepth 100000 in
theorem pbuf_calls (B D : Nat) (l : List Int) (q : Int) (G : Nat) (w : World) (h : IsBuf w B D l q G) :
    Calls Try.prog 102 #[.agg #[.pointer (some ⟨B, 0, none⟩)]] w fun e w' => e = .returned (.slice (some ⟨D, 0, none⟩) l.length l.length) ∧ w' = w.alloc (.cells #[.pointer (some ⟨B, 0, none⟩)] 89) := by
  have hN := blk_new w (.cells #[.pointer (some ⟨B, 0, none⟩)] 89)
  have HB := Aside0.mk (buf_calls B D l q G _ (⟨blk_alloc h.1 _, blk_alloc h.2 _⟩ : IsBuf (w.alloc (.cells #[.pointer (some ⟨B, 0, none⟩)] 89)) B D l q G))
  have c0 : (w.alloc (.cells #[.pointer (some ⟨B, 0, none⟩)] 89)).cell? ⟨w.heap.size, 0, none⟩ = some (.pointer (some ⟨B, 0, none⟩)) := (blk_cell hN 0).trans rfl
  clear h hN
  go_enter Try.func102, Try.ntmps102
  go_wp2_with (first | (go_at_call 55; refine HB.out.mono ?_; rintro e w1 ⟨rfl, hw1⟩; subst w1))
  go_ret
  exact ⟨rfl, rfl⟩
/-- A buffer over bytes that were made. -/
def nbO (v : Value) (n : Nat) : Obj := .cells #[.int .i64 0, v, .int .i64 (n : Int), .bool false, .nilIface, .pointer none] 117 (0, 0)
set_option maxHeartbeats 2000000 in
set_option maxRecDepth 100000 in
theorem nbb_calls (A : Option Addr) (n c : Nat) (w : World) : Calls Try.prog 37 #[.slice A n c] w fun e w' => e = .returned (.pointer (some ⟨w.heap.size, 0, none⟩)) ∧ w' = w.alloc (nbO (.slice A n c) n) := by
  go_enter Try.func37, Try.ntmps37
  go_wp2
  go_ret
  exact ⟨rfl, rfl⟩
set_option maxHeartbeats 2000000 in
set_option maxRecDepth 100000 in
theorem newbwi_calls (i : Value) (hi : i.oneCell' = true) (w : World) (x : Value) (hx : i = .iface 105 x) : Calls Try.prog 28 #[i] w fun e w' => e = .returned (.pointer (some ⟨w.heap.size, 0, none⟩)) ∧ w' = w.alloc (.cells (bwL i 0 0 0 (List.replicate 18 0)).toArray 95) := by
  subst hx
  go_enter Try.func28, Try.ntmps28
  go_wp2
  go_ret
  exact ⟨rfl, rfl⟩
set_option maxHeartbeats 2000000 in
set_option maxRecDepth 100000 in
theorem newwab_calls (A : Option Addr) (n c : Nat) (w : World) : Calls Try.prog 32 #[.slice A n c] w fun e w' => e = .returned (.iface 105 (.pointer (some ⟨w.heap.size, 0, none⟩))) ∧ w' = w.alloc (.cells #[.slice A n c] 107) := by
  go_enter Try.func32, Try.ntmps32
  go_wp2
  go_ret
  exact ⟨rfl, rfl⟩
set_option maxRecDepth 100000 in
theorem sliceTo_b (a : Addr) (n m c : Nat) (hi : n ≤ c) (hc : 0 < c) (W : World) : (Instr.sliceAt 27 (.slice (some a) m c) none (some (.int .i64 (n : Int))) none).run Try.prog W = .ok (.slice (some a) n c) W := by
  rw [run_sliceAt_slice W 27 _ _ _ _ Try.underlying27, run_slice_h W 27 (some a) m c Try.underlying27 .i64 (n : Int) (by omega) (by omega)]
  have hsz : (sizeOf (Try.prog.elem 27)).run Try.prog W = .ok 1 W := by kernel_rfl
  rw [hsz]
  simp only [Result.andThen, sliced, Int.toNat_natCast]
  rw [if_neg (by omega)]
  simp [Addr.add]
set_option maxHeartbeats 2000000 in
set_option maxRecDepth 100000 in
theorem nbytes_calls (B : Nat) (a : Addr) (n c : Nat) (w : World) (h : w.heap[B]? = some (nbO (.slice (some a) n c) n)) (hn : n ≤ c) (hc : 0 < c) :
    Calls Try.prog 90 #[.pointer (some ⟨B, 0, none⟩)] w fun e w' => e = .returned (.slice (some a) n c) ∧ ∃ m, w' = w.drewN m := by
  have r1 : w.cell? ⟨B, 1, none⟩ = some (.slice (some a) n c) := (blk_cell h 1).trans rfl
  have r2 : w.cell? ⟨B, 2, none⟩ = some (.int .i64 (n : Int)) := (blk_cell h 2).trans rfl
  have hsl := sliceTo_b a n n c hn hc
  clear h
  go_enter Try.func90, Try.ntmps90
  go_wp2
  go_quiet (fail)
  go_wp2
  go_ret
  exact ⟨rfl, _, rfl⟩
set_option maxHeartbeats 2000000 in
set_option maxRecDepth 100000 in
theorem npbytes_calls (B : Nat) (a : Addr) (n c : Nat) (w : World) (h : w.heap[B]? = some (nbO (.slice (some a) n c) n)) (hn : n ≤ c) (hc : 0 < c) :
    Calls Try.prog 103 #[.agg #[.pointer (some ⟨B, 0, none⟩)]] w fun e w' => e = .returned (.slice (some a) n c) ∧ Below w.heap.size w w' := by
  have hN := blk_new w (.cells #[.pointer (some ⟨B, 0, none⟩)] 89)
  have HB := Aside0.mk (nbytes_calls B a n c (w.alloc (.cells #[.pointer (some ⟨B, 0, none⟩)] 89)) (blk_alloc h _) hn hc)
  have c0 : (w.alloc (.cells #[.pointer (some ⟨B, 0, none⟩)] 89)).cell? ⟨w.heap.size, 0, none⟩ = some (.pointer (some ⟨B, 0, none⟩)) := (blk_cell hN 0).trans rfl
  clear h hN
  go_enter Try.func103, Try.ntmps103
  go_wp2_with (first | (go_at_call 90; refine HB.out.mono ?_; rintro e w1 ⟨rfl, m, rfl⟩))
  go_ret
  exact ⟨rfl, pw_below_drewN (below_alloc (Below.refl _ _) _) _⟩
set_option maxHeartbeats 2000000 in
set_option maxRecDepth 100000 in
theorem flushed_calls (B : Nat) (a : Addr) (c : Nat) (xs : List Int) (w : World) (h : w.heap[B]? = some (nbO (.slice (some a) xs.length c) xs.length)) (hn : xs.length ≤ c) (hc : 0 < c) (hr : Kd.C (Kd.int .u8) w (some a) xs.length xs) (hm : xs.length < 1000000) :
    Calls Try.prog 20 #[.iface 89 (.agg #[.pointer (some ⟨B, 0, none⟩)]), .nilIface] w fun e w' => ∃ v0_ : Value, e = .returned (.tuple #[v0_, .bool true]) ∧ Kd.R (Kd.int .u8) 5 w' w.heap.size (fun _ => True) v0_ xs ∧ Below w.heap.size w w' := by
  have HP := Aside0.mk (npbytes_calls B a xs.length c w h hn hc)
  have HC := Aside0.mk (fun W (hb : Below w.heap.size w W) => impl_copied.calls (some a) c xs xs W (Kd.C_below hr hb) hn (by unfold impl_copied.f; simp; omega))
  clear h hr
  go_enter Try.func20, Try.ntmps20
  go_wp2_with (first | (go_at_call 103; refine HP.out.mono ?_; rintro e w1 ⟨rfl, e1⟩; have E1 := Aside0.mk e1; clear e1) | (go_at_call 30; refine (HC.out _ E1.out).mono ?_; rintro e w2 ⟨v0, rfl, f1, f2⟩; have F1 := Aside0.mk f1; have F2 := Aside0.mk f2; clear f1 f2))
  go_ret2
  exact ⟨v0, rfl, Kd.R_lower F1.out E1.out.size, E1.out.trans (F2.out.mono E1.out.size)⟩
set_option maxHeartbeats 1000000 in
set_option maxRecDepth 100000 in
/-- An encoder of which nothing waits. -/
theorem fb64_none {w : World} {lo E S W tot : Nat} {first cur : Int} {out : List Int} (h : En 75 w lo E S W tot first cur [] out) :
    Calls Try.prog 29 #[.pointer (some ⟨E, 0, none⟩)] w fun e w' => e = .returned (.tuple #[]) ∧ w' = w := by
  obtain ⟨dv, hE, hlo, hD, hS⟩ := h
  obtain ⟨A, c, rfl⟩ : ∃ A c, dv = .slice A 0 c := by
    obtain ⟨_, h⟩ := hD
    rcases h with ⟨h, _⟩ | ⟨g, cap, cur, h, _⟩
    · exact ⟨_, _, h⟩
    · exact ⟨_, _, h⟩
  have e10 : w.cell? ⟨E, 10, none⟩ = some (.slice A 0 c) := (blk_cell hE 10).trans rfl
  clear hE hD hS
  go_enter Try.func29, Try.ntmps29
  go_wp2
  refine bodyPost_ret (results_none rfl _ _ _) rfl ?_
  exact ⟨rfl, rfl⟩
end Go.Proofs.Ytdekingogcmboaa.Q
