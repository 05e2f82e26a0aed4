/- The writer of bits: its stream; what waits written out. -/
import Derived.Test.YtiieljnllgeoeaaGreatFf
namespace Go.Proofs.YtiieljnllgeoeaaGreat.Q
open Go.RowKit Go.Proofs.YtiieljnllgeoeaaGreatW.PrintWords Go.Proofs.YtiieljnllgeoeaaGreatW.PrintLast Go.Proofs.YtiieljnllgeoeaaGreatW.PrintMore
set_option linter.unusedVariables false
set_option linter.unusedSimpArgs false
theorem splice_end (h : Int) (done cs : List Int) (n : Nat) (hn : done.length + cs.length ≤ n) : (h :: (done ++ List.replicate (n - done.length) 0)).take (1 + done.length) ++ cs ++ (h :: (done ++ List.replicate (n - done.length) 0)).drop (1 + done.length + cs.length) = h :: ((done ++ cs) ++ List.replicate (n - (done ++ cs).length) 0) := by
 rw [show 1 + done.length = done.length + 1 by omega, show done.length + 1 + cs.length = (done.length + cs.length) + 1 by omega, List.take_succ_cons, List.drop_succ_cons, List.take_left, List.drop_append, List.drop_eq_nil_of_le (by omega), List.nil_append, List.drop_replicate, List.length_append]
 simp only [List.cons_append, List.append_assoc]
 rw [show n - done.length - (done.length + cs.length - done.length) = n - (done.length + cs.length) by omega]
theorem splice_in (h : Int) (done : List Int) (b : Int) (off n : Nat) (hh : off < done.length) : (h :: (done ++ List.replicate (n - done.length) 0)).take (1 + off) ++ [b] ++ (h :: (done ++ List.replicate (n - done.length) 0)).drop (1 + off + 1) = h :: (done.set off b ++ List.replicate (n - (done.set off b).length) 0) := by
 rw [show 1 + off = off + 1 by omega, List.take_succ_cons, List.drop_succ_cons, List.take_append_of_le_length (by omega), List.drop_append_of_le_length (by omega), List.set_eq_take_append_cons_drop, if_pos hh]
 have : (done.take off ++ b :: done.drop (off + 1)).length = done.length := by simp; omega
 rw [this]
 simp
set_option maxRecDepth 100000 in
theorem sliceAt_1 (X i n : Nat) (hi : i < n) (hn : n ≤ 16777216) (W : World) : (Instr.sliceAt 23 (.slice (some ⟨X, 1, none⟩) n n) (some (.int .i64 (i : Int))) none none).run Tryz.prog W = .ok (.slice (some ⟨X, 1 + i, none⟩) (n - i) (n - i)) W := by
 rw [run_sliceAt_slice W 23 _ _ _ _ Tryz.underlying23, run_slice_l W 23 (some ⟨X, 1, none⟩) n n Tryz.underlying23 .i64 (i : Int) (by omega) (by omega)]
 have hsz : (sizeOf (Tryz.prog.elem 23)).run Tryz.prog W = .ok 1 W := by kernel_rfl
 rw [hsz]
 simp only [Result.andThen, sliced, Int.toNat_natCast]
 rw [if_neg (by omega)]
 simp [Addr.add]
/-- Where a writer over a row of bytes writes: its object, the row, how many bytes there are behind the first one, the first one. -/
structure Sk where
 B : Nat
 X : Nat
 n : Nat
 h : Int
set_option maxHeartbeats 2000000 in
set_option maxRecDepth 100000 in
/-- A write into the row. -/
theorem wab_calls (Bh X n : Nat) (l : List Int) (a : Addr) (c : Nat) (cs : List Int) (off : Nat) (w : World) (hB : w.heap[Bh]? = some (.cells #[.slice (some ⟨X, 1, none⟩) n n] 184 (0, 0))) (hX : Row w X l) (hl : l.length = n + 1) (hn : n ≤ 16777216) (h0 : 0 < cs.length) (ho : off + cs.length ≤ n) (hs : Src w a cs) :
  Calls Tryz.prog 188 #[.pointer (some ⟨Bh, 0, none⟩), .slice (some a) cs.length c, .int .i64 (off : Int)] w fun e w' => (∃ n, e = .returned (.tuple #[.int .i64 n, .nilIface])) ∧ Row w' X (l.take (1 + off) ++ cs ++ l.drop (1 + off + cs.length)) ∧ Kept w w' (fun k => k = X) ∧ Below X w w' := by
 have r0 : w.cell? ⟨Bh, 0, none⟩ = some (.slice (some ⟨X, 1, none⟩) n n) := (blk_cell hB 0).trans rfl
 have hsl := sliceAt_1 X off n (by omega) hn
 obtain ⟨w3, hcp, e1, e2, e3, e4⟩ := copy_bytes w X (1 + off) (n - off) (n - off) a cs.length c l cs hX (by show _ = min _ _; omega) hs (by omega)
 have hd1 : decide ((off : Int) > (n : Int)) = false := decide_eq_false (by omega)
 have hd2 : decide ((cs.length : Int) < (cs.length : Int)) = false := decide_eq_false (by omega)
 have X := Aside0.mk (And.intro e1 (And.intro e2 (And.intro e3 e4)))
 clear e1 e2 e3 e4 hB hX hs hl
 go_enter Tryz.func188, Tryz.ntmps188
 go_wp2
 go_ret2
 obtain ⟨e1, e2, e3, e4⟩ := X.out
 exact ⟨⟨_, rfl⟩, e1, ⟨by omega, fun i hi hn => e3 i hn⟩, e4⟩
/-- The stream of a writer of bits: its object, its sink, the bytes that are there. -/
def Bs (w : World) (lo W : Nat) (S : Sk) (done : List Int) (byo buf bto : Nat) (rs : List Int) : Prop :=
 Bw w W (.iface 182 (.pointer (some ⟨S.B, 0, none⟩))) (buf : Int) byo bto rs ∧ w.heap[S.B]? = some (.cells #[.slice (some ⟨S.X, 1, none⟩) S.n S.n] 184 (0, 0)) ∧ Row w S.X (S.h :: (done ++ List.replicate (S.n - done.length) 0)) ∧ done.length ≤ S.n ∧ S.n ≤ 16777216 ∧ lo ≤ W ∧ lo ≤ S.B ∧ lo ≤ S.X
/-- What stays: all below a place, and all blocks that are no part of a stream. -/
structure Fr (lo : Nat) (w w' : World) : Prop where
 below : Below lo w w'
 keep : ∀ (g : Nat) (t : TypeId) (cs : Array Value), w.heap[g]? = some (.cells cs t (0, 0)) → t ≠ 197 → t ≠ 5 → w'.heap[g]? = some (.cells cs t (0, 0))
theorem Fr.refl (lo : Nat) (w : World) : Fr lo w w := ⟨Below.refl _ _, fun _ _ _ h _ _ => h⟩
theorem Fr.trans {lo : Nat} {w w1 w2 : World} (h : Fr lo w w1) (k : Fr lo w1 w2) : Fr lo w w2 := ⟨h.below.trans k.below, fun g t cs e a d => k.keep g t cs (h.keep g t cs e a d) a d⟩
theorem Fr.of_kept {lo : Nat} {w w' : World} {P : Nat → Prop} (hb : Below lo w w') (hk : Kept w w' P) (hp : ∀ (g : Nat) (t : TypeId) (cs : Array Value), w.heap[g]? = some (.cells cs t (0, 0)) → t ≠ 197 → t ≠ 5 → ¬ P g) : Fr lo w w' :=
 ⟨hb, fun g t cs e a d => (hk.2 g (blk_lt e) (hp g t cs e a d)).trans e⟩
theorem Fr.of_bw {lo : Nat} {w w' : World} {W : Nat} {i : Value} {buf : Int} {byo bto : Nat} {rs : List Int} (h : Bw w W i buf byo bto rs) (hl : lo ≤ W) (hb : Below W w w') (hk : Kept w w' (fun k => k = W)) : Fr lo w w' :=
 Fr.of_kept (hb.mono hl) hk (fun g t cs e a _ hg => blk_ne e h.1 a hg)
theorem Fr.set {lo : Nat} {w : World} {W : Nat} {i : Value} {buf : Int} {byo bto : Nat} {rs : List Int} (h : Bw w W i buf byo bto rs) (hl : lo ≤ W) (j : Nat) (v : Value) : Fr lo w (w.setCell ⟨W, j, none⟩ v) :=
 Fr.of_bw h hl (Below.setCell (p := ⟨W, j, none⟩) (Below.refl _ _) (Nat.le_refl _) _) ((Kept.refl w (fun k => k = W)).setCell (.inl rfl) _)
theorem Fr.drew {lo : Nat} {w w' : World} (h : Fr lo w.drew w') : Fr lo w w' := ⟨(below_drew (Below.refl _ _)).trans h.below, h.keep⟩
theorem Fr.drewN {lo : Nat} {w w' : World} (n : Nat) (h : Fr lo (w.drewN n) w') : Fr lo w w' := ⟨(pw_below_drewN (Below.refl _ _) n).trans h.below, h.keep⟩
section
variable {w : World} {lo W : Nat} {S : Sk} {done : List Int} {byo buf bto : Nat} {rs : List Int}
theorem Bs.bw (h : Bs w lo W S done byo buf bto rs) : Bw w W (.iface 182 (.pointer (some ⟨S.B, 0, none⟩))) (buf : Int) byo bto rs := h.1
theorem Bs.low (h : Bs w lo W S done byo buf bto rs) : lo ≤ W := h.2.2.2.2.2.1
theorem Bs.drew (h : Bs w lo W S done byo buf bto rs) : Bs w.drew lo W S done byo buf bto rs := h
theorem Bs.drewN (h : Bs w lo W S done byo buf bto rs) (n : Nat) : Bs (w.drewN n) lo W S done byo buf bto rs := h
/-- The object changes, its sink does not. -/
theorem Bs.kept {w' : World} {byo' buf' bto' : Nat} {rs' : List Int} (h : Bs w lo W S done byo buf bto rs) (hk : Kept w w' (fun k => k = W)) (hb : Bw w' W (.iface 182 (.pointer (some ⟨S.B, 0, none⟩))) (buf' : Int) byo' bto' rs') : Bs w' lo W S done byo' buf' bto' rs' := by
 obtain ⟨h1, h2, h3, h4⟩ := h
 have a1 := blk_ne h2 h1.1 (by decide)
 have a2 := blk_ne h3 h1.1 (by decide)
 exact ⟨hb, (hk.2 S.B (blk_lt h2) a1).trans h2, (hk.2 S.X (blk_lt h3) a2).trans h3, h4⟩
theorem Bs.s1 (h : Bs w lo W S done byo buf bto rs) (v : Nat) : Bs (w.setCell ⟨W, 1, none⟩ (.int .u64 (v : Int))) lo W S done byo v bto rs := h.kept ((Kept.refl w (fun k => k = W)).setCell (.inl rfl) _) (h.bw.s1 _)
theorem Bs.s2 (h : Bs w lo W S done byo buf bto rs) (v : Nat) : Bs (w.setCell ⟨W, 2, none⟩ (.int .i64 (v : Int))) lo W S done v buf bto rs := h.kept ((Kept.refl w (fun k => k = W)).setCell (.inl rfl) _) (h.bw.s2 _)
theorem Bs.s3 (h : Bs w lo W S done byo buf bto rs) (v : Nat) : Bs (w.setCell ⟨W, 3, none⟩ (.int .u64 (v : Int))) lo W S done byo buf v rs := h.kept ((Kept.refl w (fun k => k = W)).setCell (.inl rfl) _) (h.bw.s3 _)
end
/-- A write at a place of the stream. -/
def Put (w w' : World) (lo W : Nat) (S : Sk) (done : List Int) (byo buf bto : Nat) (rs : List Int) (off : Nat) (cs : List Int) : Prop :=
 (off = done.length → Bs w' lo W S (done ++ cs) byo buf bto rs) ∧ (∀ b, off < done.length → cs = [b] → Bs w' lo W S (done.set off b) byo buf bto rs) ∧ Fr lo w w'
theorem bs_wat {w : World} {lo W : Nat} {S : Sk} {done : List Int} {byo buf bto : Nat} {rs : List Int} (h : Bs w lo W S done byo buf bto rs) (a : Addr) (c : Nat) (cs : List Int) (off : Nat) (h0 : 0 < cs.length) (hb : off + cs.length ≤ S.n)
  (hs : Src w a cs) :
  Calls Tryz.prog 188 #[.pointer (some ⟨S.B, 0, none⟩), .slice (some a) cs.length c, .int .i64 (off : Int)] w fun e w' => (∃ n, e = .returned (.tuple #[.int .i64 n, .nilIface])) ∧ Put w w' lo W S done byo buf bto rs off cs := by
 obtain ⟨h1, h2, h3, h4, h5, l1, l2, l3⟩ := h
 refine (wab_calls S.B S.X S.n _ a c cs off w h2 h3 (by simp; omega) h5 h0 hb hs).mono ?_
 rintro e w' ⟨he, f1, f2, f3⟩
 have n1 := blk_ne h1.1 h3 (by decide)
 have n2 := blk_ne h2 h3 (by decide)
 have hw := h1.kept f2 n1
 have hB := (f2.2 S.B (blk_lt h2) n2).trans h2
 refine ⟨he, fun ho => ?_, fun b ho hc => ?_, Fr.of_kept (f3.mono l3) f2 (fun g t cs e a d hg => blk_ne e h3 d hg)⟩
 ·subst ho
  rw [splice_end _ done cs S.n hb] at f1
  exact ⟨hw, hB, f1, by rw [List.length_append]; exact hb, h5, l1, l2, l3⟩
 ·subst hc
  rw [show 1 + off + [b].length = 1 + off + 1 from rfl, splice_in _ done b off S.n ho] at f1
  exact ⟨hw, hB, f1, by rw [List.length_set]; exact h4, h5, l1, l2, l3⟩
theorem src_raw {w : World} {W : Nat} {i : Value} {buf : Int} {byo bto x : Nat} {t : List Int} (h : Bw w W i buf byo bto (toB 8 x ++ t)) (n : Nat) (hn : n ≤ 8) : Src w ⟨W, 4, none⟩ (toB n x) := by
 intro j hj
 rw [toB_len] at hj
 have e : (⟨W, 4, none⟩ : Addr).add j = ⟨W, 4 + j, none⟩ := by simp [Addr.add]
 rw [e, h.cr j (by omega)]
 have : (toB 8 x ++ t).getD j 0 = (toB n x).getD j 0 := by
  rw [toB_at n x j hj, List.getD_eq_getElem?_getD, List.getElem?_append_left (by rw [toB_len]; omega), ← List.getD_eq_getElem?_getD, toB_at 8 x j (by omega)]
 rw [this]
theorem src_buf {w : World} {W : Nat} {i : Value} {buf : Int} {byo bto : Nat} {rs cs : List Int} (h : Bw w W i buf byo bto rs) (hc : (rs.drop 8).take cs.length = cs) (hn : cs.length ≤ 10) : Src w ⟨W, 12, none⟩ cs := by
 intro j hj
 have e : (⟨W, 12, none⟩ : Addr).add j = ⟨W, 4 + (8 + j), none⟩ := by
  rw [show 4 + (8 + j) = 12 + j by omega]
  simp [Addr.add]
 rw [e, h.cr (8 + j) (by omega)]
 have : cs.getD j 0 = rs.getD (8 + j) 0 := by
  conv => lhs; rw [← hc]
  simp only [List.getD_eq_getElem?_getD]
  rw [List.getElem?_take_of_lt hj, List.getElem?_drop]
 rw [this]
set_option maxRecDepth 100000 in
theorem slice_raw (W n : Nat) (hn : n ≤ 8) (w : World) : (Instr.sliceAt 194 (.pointer (some ⟨W, 4, none⟩)) none (some (.int .i64 (n : Int))) none).run Tryz.prog w = .ok (.slice (some ⟨W, 4, none⟩) n 8) w := by
 have ha : Tryz.prog.arrayLen 194 = 8 := by kernel_rfl
 rw [run_sliceAt_array_h w 194 ⟨W, 4, none⟩ (by kernel_rfl) .i64 (n : Int) (by omega) (by rw [ha]; omega)]
 have hsz : (sizeOf (Tryz.prog.elem 194)).run Tryz.prog w = .ok 1 w := by kernel_rfl
 rw [hsz, ha]
 simp only [Result.andThen, slicedAt, Int.toNat_natCast]
 simp [Addr.add]
set_option maxRecDepth 100000 in
theorem slice_buf (W n : Nat) (hn : n ≤ 10) (w : World) : (Instr.sliceAt 195 (.pointer (some ⟨W, 12, none⟩)) none (some (.int .i64 (n : Int))) none).run Tryz.prog w = .ok (.slice (some ⟨W, 12, none⟩) n 10) w := by
 have ha : Tryz.prog.arrayLen 195 = 10 := by kernel_rfl
 rw [run_sliceAt_array_h w 195 ⟨W, 12, none⟩ (by kernel_rfl) .i64 (n : Int) (by omega) (by rw [ha]; omega)]
 have hsz : (sizeOf (Tryz.prog.elem 195)).run Tryz.prog w = .ok 1 w := by kernel_rfl
 rw [hsz, ha]
 simp only [Result.andThen, slicedAt, Int.toNat_natCast]
 simp [Addr.add]
set_option maxHeartbeats 4000000 in
set_option maxRecDepth 100000 in
theorem flush_calls {w : World} {lo W : Nat} {S : Sk} {done : List Int} {buf bto : Nat} {rs : List Int} (h : Bs w lo W S done done.length buf bto rs) (hb : buf < 18446744073709551616) (ht : bto < 64) (hl : done.length + (bto + 7) / 8 ≤ S.n) :
  Calls Tryz.prog 82 #[.pointer (some ⟨W, 0, none⟩), .bool true] w fun e w' => e = .returned (.tuple #[]) ∧ (∃ rs', Bs w' lo W S (done ++ toB ((bto + 7) / 8) buf) (done.length + (bto + 7) / 8) 0 0 rs') ∧ Fr lo w w' := by
 have hD : done.length ≤ 16777216 := Nat.le_trans h.2.2.2.1 h.2.2.2.2.1
 by_cases c : bto = 0
 ·subst c
  have d1 := h.s1 0
  have d2 := d1.s2 done.length
  have d3 := d2.s3 0
  have e1 := (Fr.set h.bw h.low 1 (.int .u64 0)).trans ((Fr.set d1.bw d1.low 2 (.int .i64 (done.length : Int))).trans (Fr.set d2.bw d2.low 3 (.int .u64 0)))
  have r3 : w.cell? ⟨W, 3, none⟩ = some (.int .u64 0) := h.bw.c3
  have r2 := h.bw.c2
  have r1 := h.bw.c1
  have z1 := h.bw.f 1
  have z2 := h.bw.f 2
  have z3 := h.bw.f 3
  have D3 := Aside0.mk d3
  have E1 := Aside0.mk e1
  clear h d1 d2 d3 e1
  go_enter Tryz.func82, Tryz.ntmps82
  go_wp2
  go_end0
  refine ⟨rfl, ⟨rs, ?_⟩, E1.out⟩
  simpa [toB] using D3.out
 ·have hd : decide ((bto : Int) > 0) = true := decide_eq_true (by omega)
  have r3 := h.bw.c3
  have r2 := h.bw.c2
  have r1 := h.bw.c1
  have r0 := h.bw.c0
  have HB := Aside0.mk (bfb_calls bto (by omega) w)
  have hn : 0 < (bto + 7) / 8 ∧ (bto + 7) / 8 ≤ 8 := by omega
  generalize (bto + 7) / 8 = n at HB hn hl ⊢
  have HL := Aside0.mk hl
  have HD := Aside0.mk hD
  have HP := Aside0.mk (put64_calls W _ _ _ _ rs 8 buf w.drew h.bw.drew hb)
  have H := Aside0.mk h
  have HN := Aside0.mk hn
  have hsl := slice_raw W n hn.2
  clear h hn
  go_enter Tryz.func82, Tryz.ntmps82
  go_wp2_with (first | (go_at_call 75; refine HB.out.mono ?_; rintro e w1 ⟨rfl, hw1⟩; subst w1))
  go_still_tail 9, (by kernel_rfl)
  change wpList _ _ _ _ _ w.drew
  go_wp2_with (first | (go_at_call 97; refine HP.out.mono ?_; rintro e w1 ⟨rfl, e1, e2, e3⟩; have E := Aside0.mk (And.intro e1 (And.intro e2 e3)); clear e1 e2 e3))
  obtain ⟨e1, e2, e3⟩ := E.out
  clear r0 r1 r2 r3
  have r0 := e1.c0
  have r2 := e1.c2
  have hbs : Bs w1 lo W S done done.length buf bto (toB 8 buf ++ rs.drop 8) := H.out.kept ⟨e2.1, e2.2⟩ e1
  have hfr1 : Fr lo w w1 := Fr.of_bw H.out.bw H.out.low ((below_drew (Below.refl _ _)).trans e3) ⟨e2.1, e2.2⟩
  have hW := bs_wat hbs.drew ⟨W, 4, none⟩ 8 (toB n buf) done.length (by rw [toB_len]; exact HN.out.1) (by rw [toB_len]; exact HL.out) (src_raw (w := w1.drew) (t := rs.drop 8) ⟨e1.1, e1.2⟩ n HN.out.2)
  rw [toB_len] at hW
  have HW := Aside0.mk hW
  have FR := Aside0.mk hfr1
  clear hW hbs hfr1 e1 e2 e3 E HP
  go_wp2
  go_still_tail 15, (by kernel_rfl)
  change wpList _ _ _ _ _ w1.drew
  go_wp2_with (first | (go_at_call 188; refine HW.out.mono ?_; rintro e w2 ⟨⟨m, rfl⟩, p1, p2, p3⟩; have hb2 := p1 rfl; have fr2 := FR.out.trans (Fr.drew p3); have q0 := hb2.bw.c3; have q1 := hb2.bw.c1; have q2 := hb2.bw.c2; have z1 := hb2.bw.f 1; have z2 := hb2.bw.f 2; have z3 := hb2.bw.f 3; have B2 := Aside0.mk hb2; have F2 := Aside0.mk fr2; clear hb2 fr2 p1 p2 p3))
  go_end0
  have d1 := B2.out.s1 0
  have d2 := d1.s2 (done.length + n)
  have d3 := d2.s3 0
  have e1 := (Fr.set B2.out.bw B2.out.low 1 (.int .u64 0)).trans ((Fr.set d1.bw d1.low 2 (.int .i64 ((done.length + n : Nat) : Int))).trans (Fr.set d2.bw d2.low 3 (.int .u64 0)))
  have hw : wrap64 ((done.length : Int) + (n : Int)) = ((done.length + n : Nat) : Int) := by have := HN.out.2; have := HD.out; unfold wrap64; omega
  rw [hw]
  exact ⟨rfl, ⟨_, d3⟩, F2.out.trans e1⟩
end Go.Proofs.YtiieljnllgeoeaaGreat.Q
