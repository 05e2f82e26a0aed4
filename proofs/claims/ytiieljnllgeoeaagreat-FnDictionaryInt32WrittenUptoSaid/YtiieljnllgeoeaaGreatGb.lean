/- The writer of runs: its stream; a run of packed numbers written. -/
import Derived.Test.YtiieljnllgeoeaaGreatGa
namespace Go.Proofs.YtiieljnllgeoeaaGreat.Q
open Go.RowKit Go.Proofs.YtiieljnllgeoeaaGreatW.PrintWords Go.Proofs.YtiieljnllgeoeaaGreatW.PrintLast Go.Proofs.YtiieljnllgeoeaaGreatW.PrintMore
set_option linter.unusedVariables false
set_option linter.unusedSimpArgs false
/-- A stream's bytes, with those that wait. -/
def Sm (w : World) (lo W : Nat) (S : Sk) (out : List Int) : Prop := ∃ pre N bits, St w lo W S pre N bits ∧ pre ++ toB ((bits + 7) / 8) N = out
/-- The stream of a writer of runs: closed runs, the open one. -/
def Str (w : World) (lo W : Nat) (S : Sk) (wd : Nat) (dn : List Int) (L : List Nat) (off : Int) : Prop :=
 (L = [] ∧ off = -1 ∧ Sm w lo W S dn) ∨ (L ≠ [] ∧ off = (dn.length : Int) ∧ St w lo W S (dn ++ [0]) (pack wd L) (wd * L.length))
theorem pack_app (wd : Nat) (L : List Nat) (v : Nat) : pack wd L + v * 2 ^ (wd * L.length) = pack wd (L ++ [v]) := (pack_snoc wd L v).symm
theorem take_snoc {bf : List Nat} (j : Nat) (h : j < bf.length) : bf.take (j + 1) = bf.take j ++ [bf.getD j 0] := by
 rw [List.take_succ_eq_append_getElem h, List.getD_eq_getElem?_getD, List.getElem?_eq_getElem h]
 rfl
theorem Bs.setE {w : World} {lo W : Nat} {S : Sk} {done : List Int} {byo buf bto : Nat} {rs : List Int} (h : Bs w lo W S done byo buf bto rs) {E : Nat} {T : TypeId} {cs : Array Value} (hE : w.heap[E]? = some (.cells cs T (0, 0))) (h1 : T ≠ 197) (h2 : T ≠ 184) (h3 : T ≠ 5) (j : Nat) (u : Value) : Bs (w.setCell ⟨E, j, none⟩ u) lo W S done byo buf bto rs := by
 obtain ⟨b, hB, hX, r⟩ := h
 exact ⟨⟨blk_far b.1 (p := ⟨E, j, none⟩) (blk_ne b.1 hE (Ne.symm h1)) u, b.2⟩, blk_far hB (p := ⟨E, j, none⟩) (blk_ne hB hE (Ne.symm h2)) u, blk_far hX (p := ⟨E, j, none⟩) (blk_ne hX hE (Ne.symm h3)) u, r⟩
theorem Bs.alloc {w : World} {lo W : Nat} {S : Sk} {done : List Int} {byo buf bto : Nat} {rs : List Int} (h : Bs w lo W S done byo buf bto rs) (o : Obj) : Bs (w.alloc o) lo W S done byo buf bto rs := by
 obtain ⟨b, hB, hX, r⟩ := h
 exact ⟨b.alloc o, blk_alloc hB o, blk_alloc hX o, r⟩
section
variable {w : World} {lo W : Nat} {S : Sk} {pre : List Int} {N bits : Nat}
theorem St.setE (h : St w lo W S pre N bits) {E : Nat} {T : TypeId} {cs : Array Value} (hE : w.heap[E]? = some (.cells cs T (0, 0))) (h1 : T ≠ 197) (h2 : T ≠ 184) (h3 : T ≠ 5) (j : Nat) (u : Value) : St (w.setCell ⟨E, j, none⟩ u) lo W S pre N bits := by
 obtain ⟨hN, rs, hb⟩ := h
 exact ⟨hN, rs, hb.setE hE h1 h2 h3 j u⟩
theorem St.alloc (h : St w lo W S pre N bits) (o : Obj) : St (w.alloc o) lo W S pre N bits := by
 obtain ⟨hN, rs, hb⟩ := h
 exact ⟨hN, rs, hb.alloc o⟩
theorem St.drew (h : St w lo W S pre N bits) : St w.drew lo W S pre N bits := by
 obtain ⟨hN, rs, hb⟩ := h
 exact ⟨hN, rs, hb.drew⟩
theorem St.drewN (h : St w lo W S pre N bits) (n : Nat) : St (w.drewN n) lo W S pre N bits := by
 obtain ⟨hN, rs, hb⟩ := h
 exact ⟨hN, rs, hb.drewN n⟩
theorem St.lolt (h : St w lo W S pre N bits) : lo ≤ w.heap.size := by
 obtain ⟨hN, rs, hb⟩ := h
 have := hb.low; have := hb.bw.lt; omega
end
/-- What stays when the writer of runs works. -/
structure FrE (lo : Nat) (w w' : World) : Prop where
 below : Below lo w w'
 keep : ∀ (g : Nat) (t : TypeId) (cs : Array Value), w.heap[g]? = some (.cells cs t (0, 0)) → t ≠ 197 → t ≠ 5 → t ≠ 181 → t ≠ 26 → w'.heap[g]? = some (.cells cs t (0, 0))
theorem FrE.refl (lo : Nat) (w : World) : FrE lo w w := ⟨Below.refl _ _, fun _ _ _ h _ _ _ _ => h⟩
theorem FrE.trans {lo : Nat} {w w1 w2 : World} (h : FrE lo w w1) (k : FrE lo w1 w2) : FrE lo w w2 := ⟨h.below.trans k.below, fun g t cs e a d f i => k.keep g t cs (h.keep g t cs e a d f i) a d f i⟩
theorem Fr.e {lo : Nat} {w w1 : World} (h : Fr lo w w1) : FrE lo w w1 := ⟨h.below, fun g t cs e a d _ _ => h.keep g t cs e a d⟩
theorem FrE.drew {lo : Nat} {w w' : World} (h : FrE lo w.drew w') : FrE lo w w' := ⟨(below_drew (Below.refl _ _)).trans h.below, h.keep⟩
theorem FrE.drewN {lo : Nat} {w w' : World} (n : Nat) (h : FrE lo (w.drewN n) w') : FrE lo w w' := ⟨(pw_below_drewN (Below.refl _ _) n).trans h.below, h.keep⟩
theorem FrE.alloc {lo : Nat} {w : World} (h : lo ≤ w.heap.size) (o : Obj) : FrE lo w (w.alloc o) := ⟨(below_alloc (Below.refl _ _) _).mono h, fun g t cs e _ _ _ _ => blk_alloc e o⟩
section
variable {w : World} {lo R W Q wd cur rep lit : Nat} {bf : List Nat} {off : Int}
theorem Ob.setR (h : Ob w lo R W Q wd bf cur rep lit off) (j : Nat) (v : Value) : FrE lo w (w.setCell ⟨R, j, none⟩ v) := by
 obtain ⟨g, hr⟩ := h.r
 exact ⟨Below.setCell (p := ⟨R, j, none⟩) (Below.refl _ _) h.lr _, fun g t cs e _ _ a _ => blk_far e (p := ⟨R, j, none⟩) (blk_ne e hr a) v⟩
theorem Ob.setQ (h : Ob w lo R W Q wd bf cur rep lit off) (j : Nat) (v : Value) : FrE lo w (w.setCell ⟨Q, j, none⟩ v) := by
 obtain ⟨_, _, hq⟩ := h.q
 exact ⟨Below.setCell (p := ⟨Q, j, none⟩) (Below.refl _ _) h.lq _, fun g t cs e _ _ _ a => blk_far e (p := ⟨Q, j, none⟩) (blk_ne e hq a) v⟩
theorem Ob.stR {S : Sk} {pre : List Int} {N bits : Nat} (h : Ob w lo R W Q wd bf cur rep lit off) (s : St w lo W S pre N bits) (j : Nat) (v : Value) : St (w.setCell ⟨R, j, none⟩ v) lo W S pre N bits := by
 obtain ⟨g, hr⟩ := h.r
 exact s.setE hr (by decide) (by decide) (by decide) j v
theorem Ob.stQ {S : Sk} {pre : List Int} {N bits : Nat} (h : Ob w lo R W Q wd bf cur rep lit off) (s : St w lo W S pre N bits) (j : Nat) (v : Value) : St (w.setCell ⟨Q, j, none⟩ v) lo W S pre N bits := by
 obtain ⟨_, _, hq⟩ := h.q
 exact s.setE hq (by decide) (by decide) (by decide) j v
end
set_option maxRecDepth 100000 in
theorem slice_q0 (g n cap : Nat) (W : World) : (Instr.sliceAt 37 (.slice (some ⟨g, 0, none⟩) n cap) none (some (.int .i64 0)) none).run Tryz.prog W = .ok (.slice (some ⟨g, 0, none⟩) 0 cap) W := by
 rw [run_sliceAt_slice W 37 _ _ _ _ Tryz.underlying37, run_slice_h W 37 (some ⟨g, 0, none⟩) n cap Tryz.underlying37 .i64 0 (by omega) (by omega)]
 have hsz : (sizeOf (Tryz.prog.elem 37)).run Tryz.prog W = .ok 1 W := by kernel_rfl
 rw [hsz]
 simp [Result.andThen, sliced, Addr.add]
set_option maxRecDepth 100000 in
theorem slice_ind (R : Nat) (w : World) : (Instr.sliceAt 179 (.pointer (some ⟨R, 7, none⟩)) none none none).run Tryz.prog w = .ok (.slice (some ⟨R, 7, none⟩) 1 1) w := by
 kernel_rfl
theorem wdl (wd n : Nat) (h : n % 8 = 0) : (wd * n + 7) / 8 = wd * n / 8 := by
 have : wd * n = 8 * (wd * (n / 8)) := by
  rw [← Nat.mul_assoc, Nat.mul_comm 8 wd, Nat.mul_assoc, show 8 * (n / 8) = n by omega]
 omega
theorem head_b (g : Nat) (h : g < 64) : bits .or .i32 (wrap32 ((g : Int) * 2)) 1 % 256 = ((2 * g + 1 : Nat) : Int) := by
 have : ∀ g : Fin 64, bits .or .i32 (wrap32 (((g.val : Nat) : Int) * 2)) 1 % 256 = ((2 * g.val + 1 : Nat) : Int) := by decide +kernel
 exact this ⟨g, h⟩
set_option maxHeartbeats 4000000 in
set_option maxRecDepth 100000 in
theorem lit_calls {w : World} {lo R W Q wd cur rep lit : Nat} {bf L : List Nat} {dn : List Int} {off : Int} {S : Sk} (u : Bool) (h : Ob w lo R W Q wd bf cur rep lit off) (hs : Str w lo W S wd dn L off) (hx : ∀ x ∈ bf, x < 2 ^ wd) (hwd : wd ≤ 32) (hlit : lit = (L ++ bf).length)
  (h8 : (L ++ bf).length % 8 = 0) (h0 : 0 < (L ++ bf).length) (hl : (L ++ bf).length ≤ 504) (hroom : dn.length + 1 + wd * (L ++ bf).length / 8 ≤ S.n) (hn : S.n ≤ 16777216) :
  Calls Tryz.prog 81 #[.pointer (some ⟨R, 0, none⟩), .bool u] w fun e w' => e = .returned .nilIface ∧ (if u = true then Ob w' lo R W Q wd [] cur rep 0 (-1) ∧ Str w' lo W S wd (dn ++ pk wd (L ++ bf)) [] (-1) else Ob w' lo R W Q wd [] cur rep lit (dn.length : Int) ∧ Str w' lo W S wd dn (L ++ bf) (dn.length : Int)) ∧ FrE lo w w' := by
 have r6 := h.c6
 have r0 := h.c0
 have z6 := h.f 6
 have H := Aside0.mk h
 have HS := Aside0.mk hs
 have HX := Aside0.mk hx
 have HW := Aside0.mk hwd
 have HLI := Aside0.mk hlit
 have HR := Aside0.mk (And.intro h8 (And.intro h0 (And.intro hl (And.intro hroom hn))))
 clear h hs hx hwd hlit h8 h0 hl hroom hn
 go_enter Tryz.func81, Tryz.ntmps81
 go_upto_if 12 with (fail)
 go_cut [4] (fun v4 wc => v4 = .nilIface ∧ Aside0 (Ob wc lo R W Q wd bf cur rep lit (dn.length : Int)) ∧ Aside0 (St wc lo W S (dn ++ [0]) (pack wd L) (wd * L.length)) ∧ Aside0 (FrE lo w wc))
 case first =>
  rcases HS.out with ⟨a1, a2, pre, N, bits, a3, a4⟩ | ⟨a1, a2, a3⟩
  ·subst a1
   subst a2
   have hsk := st_skip a3 (by
    have := HR.out.2.2.2.1
    have e : (pre ++ toB ((bits + 7) / 8) N).length = dn.length := by rw [a4]
    rw [List.length_append, toB_len] at e
    omega)
   rw [a4] at hsk
   have HSK := Aside0.mk hsk
   clear hsk a3 a4
   go_wp2_with (first | (go_at_call 94; with_reducible refine HSK.out.mono ?_; rintro e w1 ⟨rfl, s1, f1⟩; have o1 := H.out.fr f1; have y6 := o1.f 6; have x6 := o1.c6; have O1 := Aside0.mk o1; have S1 := Aside0.mk s1; have F1 := Aside0.mk f1; clear o1 s1 f1))
   go_meet
   case rel => exact ⟨rfl, ⟨O1.out.s6 _⟩, ⟨O1.out.stR S1.out 6 _⟩, ⟨F1.out.e.trans (O1.out.setR 6 _)⟩⟩
  ·subst a2
   have hd : ((dn.length : Int) == -1) = false := beq_eq_false_iff_ne.mpr (by omega)
   have hd2 : decide ((dn.length : Int) = -1) = false := decide_eq_false (by omega)
   go_wp2
   go_meet
   case rel => exact ⟨rfl, H, ⟨a3⟩, ⟨FrE.refl _ _⟩⟩
 case rest =>
  obtain ⟨rfl, HO, HT, HF⟩ := hcut
  clear H HS r6 r0 z6
  have r1 := HO.out.c1
  go_wp2
  clear r1
  go_loopg [4, 31] (bf.length + 1) (fun kq v4 v31 w' => ∃ j : Nat, v4 = .nilIface ∧ v31 = .int .i64 (j : Int) ∧ Aside0 (j + kq = bf.length + 1) ∧ Aside0 (j ≤ bf.length) ∧ Aside0 (Ob w' lo R W Q wd bf cur rep lit (dn.length : Int)) ∧ Aside0 (St w' lo W S (dn ++ [0]) (pack wd (L ++ bf.take j)) (wd * (L ++ bf.take j).length)) ∧ Aside0 (FrE lo w w'))
  case atStart => exact ⟨0, rfl, rfl, ⟨by omega⟩, ⟨by omega⟩, HO, ⟨by simpa using HT.out⟩, HF⟩
  case round =>
   obtain ⟨j, rfl, rfl, HK, HJ, HO1, HT1, HF1⟩ := hrel
   clear HO HT HF
   cases gk with
   | zero => exact absurd HK.out (by have := HJ.out; omega)
   | succ k1 =>
    by_cases c : j < bf.length
    ·have c2 : decide ((j : Int) < (bf.length : Int)) = true := decide_eq_true (by omega)
     have q1 : (0 : Int) ≤ (j : Int) := by omega
     have q2 : (j : Int) < (bf.length : Int) := by omega
     have hq := HO1.out.at j c
     have r0 := HO1.out.c0
     have r2 := HO1.out.c2
     have hv : bf.getD j 0 < 2 ^ wd := HX.out _ (by
      rw [List.getD_eq_getElem?_getD, List.getElem?_eq_getElem c]
      exact List.getElem_mem _)
     have hbl : bf.length ≤ 504 := by have := HR.out.2.2.1; simp at this; omega
     have hst := st_val (bf.getD j 0) wd (HT1.out.drew) (by have := HW.out; omega) hv (by
      have h1 := HR.out.2.2.2.1
      have h2 := wdl wd (L ++ bf).length HR.out.1
      have h3 : wd * (L ++ bf.take j).length + wd ≤ wd * (L ++ bf).length := by
       rw [← Nat.mul_succ]
       apply Nat.mul_le_mul_left
       simp; omega
      rw [List.length_append, List.length_singleton]
      omega)
     rw [pack_app, show wd * (L ++ bf.take j).length + wd = wd * (L ++ bf.take (j + 1)).length by rw [← Nat.mul_succ, take_snoc j c]; congr 1; simp; omega, List.append_assoc, ← take_snoc j c] at hst
     generalize bf.getD j 0 = v at hq hst
     have hw : IntKind.i64.wrap ((j : Int) + 1) = ((j + 1 : Nat) : Int) := by rw [IntKind.wrap_i64]; omega
     have hcu : IntKind.u64.wrap (wd : Int) = (wd : Int) := by have := HW.out; simp [IntKind.wrap, IntKind.bits, IntKind.signed]; omega
     have HST := Aside0.mk hst
     clear hst hv hbl c
     go_upto_region 7 with (fail)
     go_still_tail 10, (by kernel_rfl)
     change wpList _ _ _ _ _ wr.drew
     go_wp2_with (first | (go_at_call 95; with_reducible refine HST.out.mono ?_; rintro e w5 ⟨rfl, s5, f5⟩; have S5 := Aside0.mk s5; have F5 := Aside0.mk (Fr.drew f5); clear s5 f5))
     go_roundg k1
     case measure => have := HK.out; omega
     case rel => exact ⟨j + 1, rfl, by simp, ⟨by have := HK.out; omega⟩, ⟨by omega⟩, ⟨HO1.out.fr F5.out⟩, S5, ⟨HF1.out.trans F5.out.e⟩⟩
    ·have c2 : decide ((j : Int) < (bf.length : Int)) = false := decide_eq_false (by omega)
     have hj : j = bf.length := by have := HJ.out; omega
     subst hj
     rw [List.take_length] at HT1
     clear c HK HJ
     have r1 := HO1.out.c1
     have z1 := HO1.out.f 1
     have hs0 := slice_q0 Q bf.length 8
     have o2 := HO1.out.s1
     have s2 := HO1.out.stR HT1.out 1 (.slice (some ⟨Q, 0, none⟩) 0 8)
     have f2 := HF1.out.trans (HO1.out.setR 1 (.slice (some ⟨Q, 0, none⟩) 0 8))
     cases u with
     | false =>
      have O2 := Aside0.mk o2
      have S2 := Aside0.mk s2
      have F2 := Aside0.mk f2
      clear o2 s2 f2 HO1 HT1 HF1
      go_wp2
      go_ret
      refine ⟨rfl, ?_, F2.out⟩
      refine ⟨O2.out, .inr ⟨fun e => ?_, rfl, S2.out⟩⟩
      have := HR.out.2.1
      rw [e] at this
      simp at this
     | true =>
      obtain ⟨g, hg⟩ : ∃ g, (L ++ bf).length = 8 * g := ⟨(L ++ bf).length / 8, by have := HR.out.1; omega⟩
      have hg64 : g < 64 := by have := HR.out.2.2.1; omega
      have hli : (lit : Int) = ((8 * g : Nat) : Int) := by rw [HLI.out, hg]
      have y5 := o2.c5
      have hq1 : Int.tdiv (lit : Int) 8 = (g : Int) := by rw [hli, Int.tdiv_eq_ediv_of_nonneg (by omega)]; omega
      have hq2 : IntKind.i32.wrap (g : Int) = (g : Int) := by simp [IntKind.wrap, IntKind.bits, IntKind.signed]; omega
      have hhb := head_b g hg64
      obtain ⟨b, hb⟩ : ∃ b, b = 2 * g + 1 := ⟨_, rfl⟩
      rw [← hb] at hhb
      have HB := Aside0.mk hb
      clear hb
      have O2 := Aside0.mk o2
      have S2 := Aside0.mk s2
      have F2 := Aside0.mk f2
      have HG := Aside0.mk (And.intro hg hg64)
      clear o2 s2 f2 HO1 HT1 HF1 hli hg hg64
      go_upto_region 13 with (fail)
      obtain ⟨g0, y7⟩ := O2.out.c7
      have z7 := O2.out.f 7
      go_upto_region 14 with (fail)
      have o3 := O2.out.s7 (b : Int)
      have s3 := O2.out.stR S2.out 7 (.int .u8 (b : Int))
      have f3 := F2.out.trans (O2.out.setR 7 (.int .u8 (b : Int)))
      have b3 : ((wr.setCell ⟨R, 1, none⟩ (.slice (some ⟨Q, 0, none⟩) 0 8)).setCell ⟨R, 7, none⟩ (.int .u8 (b : Int))).cell? ⟨R, 7, none⟩ = some (.int .u8 (b : Int)) := by
       obtain ⟨gg, hr⟩ := O2.out.r
       exact (blk_cell (blk_set hr 7 _) 7).trans rfl
      clear y7 z7 y5 hs0 r1 z1
      generalize (wr.setCell ⟨R, 1, none⟩ (.slice (some ⟨Q, 0, none⟩) 0 8)).setCell ⟨R, 7, none⟩ (.int .u8 (b : Int)) = w3 at o3 s3 f3 b3 ⊢
      have r0 := o3.c0
      have r6 := o3.c6
      have hsi := slice_ind R w3
      have hat := st_at ⟨R, 7, none⟩ dn.length (b : Int) (s3.drewN 1) (by simp) (by
       intro k hk
       have hk0 : k = 0 := by simpa using hk
       subst hk0
       exact b3)
      have hset : (dn ++ [0]).set dn.length (b : Int) = dn ++ [(b : Int)] := by
       rw [List.set_append_right _ _ (by omega), Nat.sub_self]; rfl
      rw [hset] at hat
      have HAT := Aside0.mk hat
      have O3 := Aside0.mk o3
      have F3 := Aside0.mk f3
      clear hat o3 s3 f3 b3 hset O2 S2 F2
      go_region_held3 (fun w' => w'.cell? ⟨R, 0, none⟩ = some (.pointer (some ⟨W, 0, none⟩)) ∧ w'.cell? ⟨R, 6, none⟩ = some (.int .i64 (dn.length : Int))) (go_keep) (first | (go_at_call 96; go_loud (refine HAT.out.mono ?_; rintro e w5 ⟨⟨rn, rfl⟩, s5, f5⟩; have f5' := Fr.drewN 1 f5; have o5 := O3.out.fr f5'; have x0 := o5.c0; have x6 := o5.c6; have S5 := Aside0.mk s5; have F5 := Aside0.mk f5'; have O5 := Aside0.mk o5; clear s5 f5 f5' o5)))
      clear x0 x6 r0 r6
      have x6 := O5.out.c6
      have v6 := O5.out.f 6
      have o6 := O5.out.s6 (-1)
      have x5 := o6.c5
      have v5 := o6.f 5
      have o7 := O5.out.stR S5.out 6 (.int .i64 (-1))
      have O6 := Aside0.mk o6
      have O7 := Aside0.mk o7
      clear o6 o7
      go_wp2
      go_ret
      have hpk : pk wd (L ++ bf) = (b : Int) :: toB ((wd * (L ++ bf).length + 7) / 8) (pack wd (L ++ bf)) := by
       unfold pk
       rw [wdl wd _ HR.out.1, HB.out, HG.out.1, show 8 * g / 8 * 2 + 1 = 2 * g + 1 by omega]
      refine ⟨rfl, ⟨O6.out.s5 0, .inl ⟨rfl, rfl, _, _, _, O6.out.stR O7.out 5 _, ?_⟩⟩, ((F3.out.trans F5.out.e).trans (O5.out.setR 6 _)).trans (O6.out.setR 5 _)⟩
      rw [hpk, List.append_assoc]
      rfl
end Go.Proofs.YtiieljnllgeoeaaGreat.Q
