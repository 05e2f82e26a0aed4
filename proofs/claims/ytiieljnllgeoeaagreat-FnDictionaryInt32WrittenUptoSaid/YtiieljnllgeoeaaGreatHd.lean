/- A table of hashes: entries put in, more room. -/
import Derived.Test.YtiieljnllgeoeaaGreatHc
namespace Go.Proofs.YtiieljnllgeoeaaGreat.Q
open Go.RowKit Go.Proofs.YtiieljnllgeoeaaGreatW.PrintWords Go.Proofs.YtiieljnllgeoeaaGreatW.PrintLast Go.Proofs.YtiieljnllgeoeaaGreatW.PrintMore
set_option linter.unusedVariables false
set_option linter.unusedSimpArgs false
def entV (e : Ent) : Value := .agg #[.int .u64 (e.h : Int), .int .i32 e.val, .int .i32 e.idx]
set_option maxHeartbeats 2000000 in
set_option maxRecDepth 100000 in
theorem valid_calls (e : Ent) (w : World) : Calls Tryz.prog 156 #[entV e] w fun x w' => x = .returned (.bool (decide (e.h ≠ 0))) ∧ Below w.heap.size w w' := by
 unfold entV
 by_cases c : e.h = 0
 ·rw [decide_eq_false (by simpa using c), c]
  clear c
  go_enter Tryz.func156, Tryz.ntmps156
  go_wp2
  go_ret
  exact ⟨rfl, below_alloc (Below.refl _ _) _⟩
 ·rw [decide_eq_true (by simpa using c)]
  have d1 : ((e.h : Int) != 0) = true := bne_iff_ne.mpr (by omega)
  have d2 : ((e.h : Int) == 0) = false := beq_eq_false_iff_ne.mpr (by omega)
  have d3 : decide ((e.h : Int) = 0) = false := decide_eq_false (by omega)
  clear c
  go_enter Tryz.func156, Tryz.ntmps156
  go_wp2
  go_ret
  exact ⟨rfl, below_alloc (Below.refl _ _) _⟩
set_option maxHeartbeats 2000000 in
set_option maxRecDepth 100000 in
theorem need_calls {w : World} {H M cap mask n len : Nat} (hH : w.heap[H]? = some (.cells (tabL cap mask n M len) 150 (0, 0))) (hn : n < 1000000) :
  Calls Tryz.prog 151 #[.pointer (some ⟨H, 0, none⟩)] w fun e w' => e = .returned (.bool (decide (cap ≤ n * 2))) ∧ ∃ m, w' = w.drewN m := by
 have c0 : w.cell? ⟨H, 0, none⟩ = some (.int .u64 (cap : Int)) := (blk_cell hH 0).trans rfl
 have c2 : w.cell? ⟨H, 2, none⟩ = some (.int .u64 (n : Int)) := (blk_cell hH 2).trans rfl
 have hm : IntKind.u64.wrap ((n : Int) * 2) = ((n * 2 : Nat) : Int) := by simp [IntKind.wrap, IntKind.bits, IntKind.signed]; omega
 have hd : decide (((n * 2 : Nat) : Int) ≥ (cap : Int)) = decide (cap ≤ n * 2) := by
  by_cases c : cap ≤ n * 2
  ·rw [decide_eq_true c, decide_eq_true (by omega)]
  ·rw [decide_eq_false c, decide_eq_false (by omega)]
 clear hH hn
 generalize n * 2 = n2 at hm hd ⊢
 go_enter Tryz.func151, Tryz.ntmps151
 go_wp2
 go_quiet (fail)
 go_wp2

 go_ret
 exact ⟨rfl, _, rfl⟩
theorem entL_rep (L : Nat) : madeCells #[.int .u64 0, .int .i32 0, .int .i32 0] (L * 3) = (entL (List.replicate L e0)).toArray := by
 have h1 : (madeCells #[.int .u64 0, .int .i32 0, .int .i32 0] (L * 3)).toList = entL (List.replicate L e0) := by
  apply List.ext_getElem?
  intro i
  by_cases c : i < L * 3
  ·obtain ⟨a1, a2, a3⟩ := entL_at (List.replicate L e0) (i / 3) (by simp; omega)
   have hg : (List.replicate L e0).getD (i / 3) e0 = e0 := by
    rw [List.getD_eq_getElem?_getD, List.getElem?_replicate]
    split <;> rfl
   rw [hg] at a1 a2 a3
   have hl : (madeCells #[.int .u64 0, .int .i32 0, .int .i32 0] (L * 3)).toList[i]? = some ((#[Value.int .u64 0, .int .i32 0, .int .i32 0] : Array Value)[i % 3]!) := by
    simp [madeCells, c]
   rw [hl]
   have h3 : i % 3 = 0 ∨ i % 3 = 1 ∨ i % 3 = 2 := by omega
   rcases h3 with h3 | h3 | h3
   ·rw [show 3 * (i / 3) = i by omega] at a1; rw [h3, a1]; rfl
   ·rw [show 3 * (i / 3) + 1 = i by omega] at a2; rw [h3, a2]; rfl
   ·rw [show 3 * (i / 3) + 2 = i by omega] at a3; rw [h3, a3]; rfl
  ·rw [List.getElem?_eq_none (by simp [madeCells]; omega), List.getElem?_eq_none (by rw [entL_len]; simp; omega)]
 apply Array.ext'
 simpa using h1
theorem info247_some : (Tryz.prog.info? 247).isSome = true := by kernel_rfl
def entO (es : List Ent) : Obj := .cells (entL es).toArray 247
set_option maxRecDepth 100000 in
theorem make_e (L : Nat) (h : L ≤ 100000000) (W : World) : (Instr.makeSlice 148 (.int .u64 (L : Int)) (.int .u64 (L : Int))).run Tryz.prog W = .ok (.slice (some ⟨W.heap.size, 0, none⟩) L L) (W.alloc (entO (List.replicate L e0))) := by
 have hb : ((Tryz.prog.info? 247).get info247_some).bytes = 16 := by kernel_rfl
 have hs : ((Tryz.prog.info? 247).get info247_some).size = 3 := by kernel_rfl
 have hr := run_make (P := Tryz.prog) W 148 247 ((Tryz.prog.info? 247).get info247_some) (.agg #[.int .u64 0, .int .i32 0, .int .i32 0]) (by kernel_rfl) (Option.some_get _).symm (by kernel_rfl) .u64 .u64 (L : Int) (L : Int) (by omega) (Int.le_refl _) (by rw [hb]; omega) (by omega)
 simp only [Int.toNat_natCast, hs] at hr
 rw [hr]
 have : Value.cells (.agg #[.int .u64 0, .int .i32 0, .int .i32 0]) = #[.int .u64 0, .int .i32 0, .int .i32 0] := by simp [Value.cells]
 rw [this, entL_rep]
 rfl
theorem entL_set (es : List Ent) (e : Ent) : ∀ i, i < es.length → entL (es.set i e) = (((entL es).set (i * 3) (.int .u64 (e.h : Int))).set (i * 3 + 1) (.int .i32 e.val)).set (i * 3 + 2) (.int .i32 e.idx) := by
 induction es with
 | nil => intro i hi; simp at hi
 | cons x es ih =>
  intro i hi
  have hc : ∀ x es, entL (x :: es) = .int .u64 (x.h : Int) :: .int .i32 x.val :: .int .i32 x.idx :: entL es := fun _ _ => rfl
  cases i with
  | zero => simp [hc]
  | succ i =>
   rw [show (i + 1) * 3 = i * 3 + 1 + 1 + 1 by omega, List.set_cons_succ, hc, ih i (by simpa using hi), hc]
   simp only [List.set_cons_succ]
/-- An entry laid into the row. -/
theorem Ents.set {w : World} {M : Nat} {es : List Ent} (h : Ents w M es) (i : Nat) (hi : i < es.length) (e : Ent) : Ents (((w.setCell ⟨M, i * 3, none⟩ (.int .u64 (e.h : Int))).setCell ⟨M, i * 3 + 1, none⟩ (.int .i32 e.val)).setCell ⟨M, i * 3 + 2, none⟩ (.int .i32 e.idx)) M (es.set i e) := by
 have h1 := blk_set (blk_set (blk_set h (i * 3) (.int .u64 (e.h : Int))) (i * 3 + 1) (.int .i32 e.val)) (i * 3 + 2) (.int .i32 e.idx)
 unfold Ents
 rw [entL_set es e i hi]
 simpa using h1
/-- What stays when a table works. -/
structure FrM (lo : Nat) (w w' : World) : Prop where
 below : Below lo w w'
 keep : ∀ (g : Nat) (t : TypeId) (cs : Array Value), w.heap[g]? = some (.cells cs t (0, 0)) → t ≠ 150 → t ≠ 247 → w'.heap[g]? = some (.cells cs t (0, 0))
theorem FrM.refl (lo : Nat) (w : World) : FrM lo w w := ⟨Below.refl _ _, fun _ _ _ h _ _ => h⟩
theorem FrM.trans {lo : Nat} {w w1 w2 : World} (h : FrM lo w w1) (k : FrM lo w1 w2) : FrM lo w w2 := ⟨h.below.trans k.below, fun g t cs e a d => k.keep g t cs (h.keep g t cs e a d) a d⟩
theorem FrM.low {lo : Nat} {w w1 : World} (h : Below w.heap.size w w1) (hs : lo ≤ w.heap.size) : FrM lo w w1 := ⟨h.mono hs, fun g t cs e _ _ => (h.block g (blk_lt e)).trans e⟩
theorem FrM.set {lo : Nat} {w : World} {G : Nat} {T : TypeId} {cs : Array Value} (h : w.heap[G]? = some (.cells cs T (0, 0))) (hl : lo ≤ G) (ht : T = 150 ∨ T = 247) (j : Nat) (v : Value) : FrM lo w (w.setCell ⟨G, j, none⟩ v) :=
 ⟨Below.setCell (p := ⟨G, j, none⟩) (Below.refl _ _) hl _, fun g t cs e a d => blk_far e (p := ⟨G, j, none⟩) (blk_ne e h (by rcases ht with rfl | rfl <;> assumption)) v⟩
set_option maxHeartbeats 4000000 in
set_option maxRecDepth 100000 in
theorem upsize_calls {w : World} {lo H M n p : Nat} {es : List Ent} (h : Tab w lo H M es n) (hp : es.length = 2 ^ p) (hp2 : p ≤ 20) (hes : ∀ e ∈ es, e.h < 18446744073709551616) (k : Nat) (es2 : List Ent) (hk : mv k es (List.replicate (es.length * 4) e0) = some es2) :
  Calls Tryz.prog 152 #[.pointer (some ⟨H, 0, none⟩), .int .u64 ((es.length * 4 : Nat) : Int)] w fun e w' => e = .returned .nilIface ∧ ∃ M2, Tab w' lo H M2 es2 n ∧ FrM lo w w' := by
 have h2 : (2 : Nat) ^ p ≤ 2 ^ 20 := Nat.pow_le_pow_right (by omega) hp2
 have hpos : 0 < es.length := by rw [hp]; exact Nat.two_pow_pos p
 have hm4 : es.length * 4 = 2 ^ (p + 2) := by rw [hp, Nat.pow_add]
 have c3 : w.cell? ⟨H, 3, none⟩ = some (.slice (some ⟨M, 0, none⟩) es.length es.length) := (blk_cell h.h 3).trans rfl
 have z3 := blk_frozen h.h 3
 have hlt : H < w.heap.size := blk_lt h.h
 have hltM : M < w.heap.size := blk_lt h.m
 have hmk := make_e (es.length * 4) (by omega) 
 have hsub : IntKind.u64.wrap (((es.length * 4 : Nat) : Int) - 1) = ((es.length * 4 - 1 : Nat) : Int) := by simp [IntKind.wrap, IntKind.bits, IntKind.signed]; omega
 have HT := Aside0.mk h
 have HP := Aside0.mk (And.intro hp (And.intro hp2 (And.intro hes (And.intro hk (And.intro hpos hm4)))))
 have HL := Aside0.mk (show es.length ≤ 1048576 by omega)
 clear h hp hp2 hes hk h2 hpos hm4
 obtain ⟨L4, hL4⟩ : ∃ L4, L4 = es.length * 4 := ⟨_, rfl⟩
 rw [← hL4] at hmk hsub ⊢
 have HL4 := Aside0.mk hL4
 clear hL4
 go_enter Tryz.func152, Tryz.ntmps152
 go_upto_region 4 with (fail)
 have hne : M ≠ w.heap.size := by omega
 have hneH : H ≠ w.heap.size := by omega
 have hHM : M ≠ H := blk_ne HT.out.m HT.out.h (by decide)
 have hl1 : lo ≤ w.heap.size := Nat.le_trans HT.out.lh (Nat.le_of_lt hlt)
 have s1 : ((w.setCell ⟨H, 3, none⟩ (.slice (some ⟨w.heap.size, 0, none⟩) L4 L4)).alloc (entO (List.replicate L4 e0))).heap[H]? = some (.cells (tabL es.length (es.length - 1) n w.heap.size L4) 150 (0, 0)) := blk_alloc ((blk_set HT.out.h 3 _).trans rfl) _
 have s2 : Ents ((w.setCell ⟨H, 3, none⟩ (.slice (some ⟨w.heap.size, 0, none⟩) L4 L4)).alloc (entO (List.replicate L4 e0))) w.heap.size (List.replicate L4 e0) := blk_at _ _ _ (by simp)
 have s3 : Ents ((w.setCell ⟨H, 3, none⟩ (.slice (some ⟨w.heap.size, 0, none⟩) L4 L4)).alloc (entO (List.replicate L4 e0))) M es := blk_alloc (blk_far HT.out.m (p := ⟨H, 3, none⟩) hHM _) _
 have s4 : FrM lo w ((w.setCell ⟨H, 3, none⟩ (.slice (some ⟨w.heap.size, 0, none⟩) L4 L4)).alloc (entO (List.replicate L4 e0))) := (FrM.set HT.out.h HT.out.lh (.inl rfl) 3 _).trans (FrM.low (below_alloc (Below.refl _ _) _) (by simpa using hl1))
 clear c3 z3 hlt hltM
 generalize hM2 : w.heap.size = M2 at s1 s2 s3 s4 hne hneH hl1 ⊢
 have HN := Aside0.mk (And.intro hne (And.intro hneH (And.intro hHM hl1)))
 generalize (w.setCell ⟨H, 3, none⟩ (.slice (some ⟨M2, 0, none⟩) L4 L4)).alloc (entO (List.replicate L4 e0)) = w2 at s1 s2 s3 s4 ⊢
 clear hM2 hne hneH hHM hl1 hmk hsub
 have S1 := Aside0.mk s1
 have S2 := Aside0.mk s2
 have S3 := Aside0.mk s3
 have S4 := Aside0.mk s4
 clear s1 s2 s3 s4
 go_wp2
 go_loopg [24] (es.length + 1) (fun kq v24 w' => ∃ (j : Nat) (ns : List Ent), v24 = .int .i64 (j : Int) ∧ Aside0 (j + kq = es.length + 1 ∧ j ≤ es.length) ∧ Aside0 (mv k (es.drop j) ns = some es2 ∧ ns.length = L4 ∧ ∀ e ∈ ns, e.h < 18446744073709551616) ∧ Aside0 (w'.heap[H]? = some (.cells (tabL es.length (es.length - 1) n M2 L4) 150 (0, 0))) ∧ Aside0 (Ents w' M2 ns) ∧ Aside0 (Ents w' M es) ∧ Aside0 (FrM lo w w'))
 case atStart => exact ⟨0, List.replicate L4 e0, rfl, ⟨by omega, by omega⟩, ⟨by rw [List.drop_zero, HL4.out]; exact HP.out.2.2.2.1, by simp, fun e he => by rw [(List.mem_replicate.1 he).2]; simp [e0]⟩, S1, S2, S3, S4⟩
 case round =>
  obtain ⟨j, ns, rfl, HJ, HMV, T1, T2, T3, T4⟩ := hrel
  clear S1 S2 S3 S4
  obtain ⟨k1, rfl⟩ : ∃ k1, gk = k1 + 1 := ⟨gk - 1, by have := HJ.out; omega⟩
  by_cases c : j < es.length
  ·have d1 : decide ((j : Int) < (es.length : Int)) = true := decide_eq_true (by omega)
   have q1 : (0 : Int) ≤ (j : Int) := by omega
   have q2 : (j : Int) < (es.length : Int) := by omega
   obtain ⟨a0, a1, a2⟩ := T3.out.at j c
   have hdr : es.drop j = es.getD j e0 :: es.drop (j + 1) := by
    rw [List.drop_eq_getElem_cons c, List.getD_eq_getElem?_getD, List.getElem?_eq_getElem c]
    rfl
   have hmem := getD_mem c
   have hlh := HP.out.2.2.1 _ hmem
   have hmv := HMV.out.1
   rw [hdr] at hmv
   generalize es.getD j e0 = en at a0 a1 a2 hmv hlh
   have HMV2 := Aside0.mk hmv
   clear hdr hmem hmv c
   go_upto_region 7 with (fail)
   have t1 := blk_alloc T1.out (.cells #[.int .u64 (en.h : Int), .int .i32 en.val, .int .i32 en.idx] 247)
   have t2 : Ents (wr.alloc (.cells #[.int .u64 (en.h : Int), .int .i32 en.val, .int .i32 en.idx] 247)) M2 ns := blk_alloc T2.out _
   have t3 : Ents (wr.alloc (.cells #[.int .u64 (en.h : Int), .int .i32 en.val, .int .i32 en.idx] 247)) M es := blk_alloc T3.out _
   have t4 := T4.out.trans (FrM.low (below_alloc (Below.refl _ _) (.cells #[.int .u64 (en.h : Int), .int .i32 en.val, .int .i32 en.idx] 247)) (Nat.le_trans (Nat.le_of_lt (Nat.lt_of_le_of_lt HT.out.lh (blk_lt T1.out))) (Nat.le_refl _)))
   have t5 := blk_new wr (.cells #[.int .u64 (en.h : Int), .int .i32 en.val, .int .i32 en.idx] 247)
   have n2 : M2 ≠ wr.heap.size := by have := blk_lt T2.out; omega
   have n1 : M ≠ wr.heap.size := by have := blk_lt T3.out; omega
   have n0 : H ≠ wr.heap.size := by have := blk_lt T1.out; omega
   clear a0 a1 a2 T1 T2 T3 T4
   generalize wr.heap.size = V at t5 n2 n1 n0 ⊢
   generalize wr.alloc (.cells #[.int .u64 (en.h : Int), .int .i32 en.val, .int .i32 en.idx] 247) = w3 at t1 t2 t3 t4 t5 ⊢
   have b0 : w3.cell? ⟨V, 0, none⟩ = some (.int .u64 (en.h : Int)) := (blk_cell t5 0).trans rfl
   have b1 : w3.cell? ⟨V, 1, none⟩ = some (.int .i32 en.val) := (blk_cell t5 1).trans rfl
   have b2 : w3.cell? ⟨V, 2, none⟩ = some (.int .i32 en.idx) := (blk_cell t5 2).trans rfl
   obtain ⟨bb, hbb⟩ : ∃ b, b = decide (en.h ≠ 0) := ⟨_, rfl⟩
   have HBB := Aside0.mk hbb
   have HVA := Aside0.mk (valid_calls en w3)
   rw [← hbb] at HVA
   clear hbb
   unfold entV at HVA
   have TT := Aside0.mk (And.intro t1 (And.intro t2 (And.intro t3 (And.intro t4 t5))))
   have NN := Aside0.mk (And.intro n2 (And.intro n1 n0))
   clear t1 t2 t3 t4 t5 n2 n1 n0
   go_upto_if 29 with (first | (go_at_call 156; go_loud (with_reducible refine HVA.out.mono ?_; rintro e w4 ⟨rfl, bv⟩; have BV := Aside0.mk bv; clear bv)))
   obtain ⟨t1, t2, t3, t4, t5⟩ := TT.out
   have t1' := (BV.out.block H (blk_lt t1)).trans t1
   have t2' : Ents w4 M2 ns := (BV.out.block M2 (blk_lt t2)).trans t2
   have t3' : Ents w4 M es := (BV.out.block M (blk_lt t3)).trans t3
   have t5' := (BV.out.block V (blk_lt t5)).trans t5
   have t4' := t4.trans (FrM.low BV.out (Nat.le_trans HT.out.lh (Nat.le_of_lt (blk_lt t1))))
   clear t1 t2 t3 t4 t5 TT BV HVA b0 b1 b2
   have hw : IntKind.i64.wrap ((j : Int) + 1) = ((j + 1 : Nat) : Int) := by rw [IntKind.wrap_i64]; have := HL.out; omega
   by_cases c0 : en.h = 0
   ·have dv : bb = false := HBB.out.trans (decide_eq_false (by simpa using c0))
    have hmv := HMV2.out
    rw [mv, if_pos c0] at hmv
    have RES := Aside0.mk (And.intro hmv (And.intro t1' (And.intro t2' (And.intro t3' t4'))))
    clear hmv t1' t2' t3' t4' t5' c0 HBB
    subst dv
    go_wp2
    go_roundg k1
    case measure => have := HJ.out; omega
    case rel => exact ⟨j + 1, ns, by simp, ⟨by have := HJ.out; omega, by omega⟩, ⟨RES.out.1, HMV.out.2.1, HMV.out.2.2⟩, ⟨RES.out.2.1⟩, ⟨RES.out.2.2.1⟩, ⟨RES.out.2.2.2.1⟩, ⟨RES.out.2.2.2.2⟩⟩
   ·have dv : bb = true := HBB.out.trans (decide_eq_true c0)
    have hmv := HMV2.out
    rw [mv, if_neg c0] at hmv
    have hlen4 : ns.length = L4 := HMV.out.2.1
    cases hlk : lk k ns en.h (fun _ => false) (en.h % ns.length) (en.h / 32 + 1) with
    | none => rw [hlk] at hmv; simp at hmv
    | some ib =>
     obtain ⟨i, b⟩ := ib
     rw [hlk] at hmv
     simp only at hmv
     have t1'' : w4.heap[H]? = some (.cells (tabL es.length (es.length - 1) n M2 ns.length) 150 (0, 0)) := by rw [hlen4]; exact t1'
     have HLK := Aside0.mk (lk_no (p := p + 2) t1'' t2' (by rw [hlen4, HL4.out]; exact HP.out.2.2.2.2.2) (by have := HP.out.2.1; omega) HMV.out.2.2 (en.h : Int) en.h (by rw [if_neg (by omega)]) hlh k i b hlk)
     rw [hlen4] at HLK
     have b0 : w4.cell? ⟨V, 0, none⟩ = some (.int .u64 (en.h : Int)) := (blk_cell t5' 0).trans rfl
     have RES := Aside0.mk (And.intro hmv (And.intro t1' (And.intro t2' (And.intro t3' (And.intro t4' t5')))))
     clear hmv t1' t2' t3' t4' t5' c0 HBB t1'' hlk
     subst dv
     go_upto_region 9 with (first | (go_at_call 148; go_loud (with_reducible refine HLK.out.mono ?_; rintro e w5 ⟨rfl, hi, b5⟩; have B5 := Aside0.mk (And.intro hi b5); clear hi b5)))
     obtain ⟨hmv, t1, t2, t3, t4, t5⟩ := RES.out
     obtain ⟨hi, b5⟩ := B5.out
     have t1' := (b5.block H (blk_lt t1)).trans t1
     have t2' : Ents w5 M2 ns := (b5.block M2 (blk_lt t2)).trans t2
     have t3' : Ents w5 M es := (b5.block M (blk_lt t3)).trans t3
     have t5' := (b5.block V (blk_lt t5)).trans t5
     have t4' := t4.trans (FrM.low b5 (Nat.le_trans HT.out.lh (Nat.le_of_lt (blk_lt t1))))
     clear t1 t2 t3 t4 t5 RES B5 HLK b0 b5
     have c3 : w5.cell? ⟨H, 3, none⟩ = some (.slice (some ⟨M2, 0, none⟩) L4 L4) := (blk_cell t1' 3).trans rfl
     have v0 : w5.cell? ⟨V, 0, none⟩ = some (.int .u64 (en.h : Int)) := (blk_cell t5' 0).trans rfl
     have v1 : w5.cell? ⟨V, 1, none⟩ = some (.int .i32 en.val) := (blk_cell t5' 1).trans rfl
     have v2 : w5.cell? ⟨V, 2, none⟩ = some (.int .i32 en.idx) := (blk_cell t5' 2).trans rfl
     have g1 : (0 : Int) ≤ (i : Int) := by omega
     have g2 : (i : Int) < (L4 : Int) := by omega
     obtain ⟨m0, m1, m2⟩ := t2'.at i (by omega)
     have z0 := blk_frozen t2' (i * 3)
     have z1 := blk_frozen t2' (i * 3 + 1)
     have z2 := blk_frozen t2' (i * 3 + 2)
     have RES := Aside0.mk (And.intro hmv (And.intro t1' (And.intro t2' (And.intro t3' (And.intro t4' hi)))))
     clear hmv t1' t2' t3' t4' t5' hi hlen4
     go_still_tail 7, (by kernel_rfl)
     change wpList _ _ _ _ _ w5.drew
     go_upto_region 10 with (fail)
     obtain ⟨hmv, t1, t2, t3, t4, hi⟩ := RES.out
     obtain ⟨hne, hneH, hHM, hl1⟩ := HN.out
     have s2 := t2.set i (by rw [HMV.out.2.1]; exact hi) en
     have hMM2 : M ≠ M2 := hne
     have x1 := blk_far (blk_far (blk_far t1 (p := ⟨M2, i * 3, none⟩) hneH (.int .u64 (en.h : Int))) (p := ⟨M2, i * 3 + 1, none⟩) hneH (.int .i32 en.val)) (p := ⟨M2, i * 3 + 2, none⟩) hneH (.int .i32 en.idx)
     have x3 := blk_far (blk_far (blk_far t3 (p := ⟨M2, i * 3, none⟩) hMM2 (.int .u64 (en.h : Int))) (p := ⟨M2, i * 3 + 1, none⟩) hMM2 (.int .i32 en.val)) (p := ⟨M2, i * 3 + 2, none⟩) hMM2 (.int .i32 en.idx)
     have y1 := FrM.set (lo := lo) t2 hl1 (.inr rfl) (i * 3) (.int .u64 (en.h : Int))
     have u1 := blk_set t2 (i * 3) (.int .u64 (en.h : Int))
     have y2 := FrM.set (lo := lo) u1 hl1 (.inr rfl) (i * 3 + 1) (.int .i32 en.val)
     have u2 := blk_set u1 (i * 3 + 1) (.int .i32 en.val)
     have y3 := FrM.set (lo := lo) u2 hl1 (.inr rfl) (i * 3 + 2) (.int .i32 en.idx)
     have x4 := t4.trans (y1.trans (y2.trans y3))
     have RES2 := Aside0.mk (And.intro hmv (And.intro x1 (And.intro s2 (And.intro x3 x4))))
     clear RES hmv t1 t2 t3 t4 hi hne hneH hHM hl1 s2 hMM2 x1 x3 y1 u1 y2 u2 y3 x4 m0 m1 m2 z0 z1 z2 v0 v1 v2 c3
     generalize ((w5.setCell ⟨M2, i * 3, none⟩ (.int .u64 (en.h : Int))).setCell ⟨M2, i * 3 + 1, none⟩ (.int .i32 en.val)).setCell ⟨M2, i * 3 + 2, none⟩ (.int .i32 en.idx) = w6 at RES2 ⊢
     go_wp2
     go_roundg k1
     case measure => have := HJ.out; omega
     case rel => exact ⟨j + 1, ns.set i en, by simp, ⟨by have := HJ.out; omega, by omega⟩, ⟨RES2.out.1, by rw [List.length_set]; exact HMV.out.2.1, fun e he => by
      rcases List.mem_or_eq_of_mem_set he with he | rfl
      ·exact HMV.out.2.2 e he
      ·exact hlh⟩, ⟨RES2.out.2.1⟩, ⟨RES2.out.2.2.1⟩, ⟨RES2.out.2.2.2.1⟩, ⟨RES2.out.2.2.2.2.trans (FrM.low (below_drew (Below.refl _ _)) (by
       have := HT.out.lh; have := blk_lt RES2.out.2.1; omega))⟩⟩
  ·have d1 : decide ((j : Int) < (es.length : Int)) = false := decide_eq_false (by omega)
   have d2 : decide (j < es.length) = false := decide_eq_false c
   have hj : j = es.length := by have := HJ.out; omega
   have hmv := HMV.out.1
   rw [hj, List.drop_length, mv] at hmv
   have hns : ns = es2 := by simpa using hmv
   have c0 : wr.cell? ⟨H, 0, none⟩ = some (.int .u64 (es.length : Int)) := (blk_cell T1.out 0).trans rfl
   have c1 : wr.cell? ⟨H, 1, none⟩ = some (.int .u64 ((es.length - 1 : Nat) : Int)) := (blk_cell T1.out 1).trans rfl
   have z0 := blk_frozen T1.out 0
   have z1 := blk_frozen T1.out 1
   have hne := HN.out.2.1
   have x1 := blk_set (blk_set T1.out 0 (.int .u64 (L4 : Int))) 1 (.int .u64 ((L4 - 1 : Nat) : Int))
   have x2 : Ents ((wr.setCell ⟨H, 0, none⟩ (.int .u64 (L4 : Int))).setCell ⟨H, 1, none⟩ (.int .u64 ((L4 - 1 : Nat) : Int))) M2 ns := blk_far (blk_far T2.out (p := ⟨H, 0, none⟩) (Ne.symm hne) _) (p := ⟨H, 1, none⟩) (Ne.symm hne) _
   have y1 := FrM.set (lo := lo) T1.out HT.out.lh (.inl rfl) 0 (.int .u64 (L4 : Int))
   have y2 := FrM.set (lo := lo) (blk_set T1.out 0 (.int .u64 (L4 : Int))) HT.out.lh (.inl rfl) 1 (.int .u64 ((L4 - 1 : Nat) : Int))
   have RES := Aside0.mk (And.intro hns (And.intro x1 (And.intro x2 (T4.out.trans (y1.trans y2)))))
   clear hmv hns x1 x2 y1 y2 hne hj c
   go_wp2
   go_ret
   obtain ⟨hns, x1, x2, x4⟩ := RES.out
   refine ⟨rfl, M2, ⟨?_, ?_, HT.out.lh, HN.out.2.2.2⟩, x4⟩
   ·rw [← hns, HMV.out.2.1]
    exact x1.trans (by simp [tabL])
   ·rw [← hns]; exact x2
end Go.Proofs.YtiieljnllgeoeaaGreat.Q
