/- Several texts of ours in one: He, Hf, Hg. -/
import Derived.Test.YtiieljnllgeoeaaGreatHd
/- A table of hashes: an entry put in. -/
namespace Go.Proofs.YtiieljnllgeoeaaGreat.Q
open Go.RowKit Go.Proofs.YtiieljnllgeoeaaGreatW.PrintWords Go.Proofs.YtiieljnllgeoeaaGreatW.PrintLast Go.Proofs.YtiieljnllgeoeaaGreatW.PrintMore
set_option linter.unusedVariables false
set_option linter.unusedSimpArgs false
theorem Tab.low {w w1 : World} {lo H M n : Nat} {es : List Ent} (h : Tab w lo H M es n) (b : Below w.heap.size w w1) : Tab w1 lo H M es n := ⟨(b.block H (blk_lt h.h)).trans h.h, (b.block M (blk_lt h.m)).trans h.m, h.lh, h.lm⟩
theorem Tab.en {w : World} {lo H M n : Nat} {es : List Ent} (h : Tab w lo H M es n) : Ents w M es := h.m
theorem Tab.lt {w : World} {lo H M n : Nat} {es : List Ent} (h : Tab w lo H M es n) : lo ≤ w.heap.size := Nat.le_trans h.lh (Nat.le_of_lt (blk_lt h.h))
set_option maxHeartbeats 4000000 in
set_option maxRecDepth 100000 in
theorem insert_calls {w : World} {lo H M n p i : Nat} {es : List Ent} (h : Tab w lo H M es n) (hp : es.length = 2 ^ p) (hp2 : p ≤ 20) (hes : ∀ e ∈ es, e.h < 18446744073709551616) (hn : n < 100000) (hi : i < es.length) (v0 : Int) (v : Nat) (hv : (v : Int) = if v0 = 0 then 42 else v0) (hvb : v < 18446744073709551616) (x : Int) (k : Nat) (es2 : List Ent)
  (hk : (if es.length ≤ (n + 1) * 2 then mv k (es.set i ⟨v, x, n⟩) (List.replicate (es.length * 4) e0) else some (es.set i ⟨v, x, n⟩)) = some es2) :
  Calls Tryz.prog 142 #[.pointer (some ⟨H, 0, none⟩), .pointer (some ⟨M, i * 3, none⟩), .int .u64 v0, .int .i32 x, .int .i32 (n : Int)] w fun e w' => e = .returned .nilIface ∧ ∃ M2, Tab w' lo H M2 es2 (n + 1) ∧ FrM lo w w' := by
 have h2 : (2 : Nat) ^ p ≤ 2 ^ 20 := Nat.pow_le_pow_right (by omega) hp2
 have c0 : w.cell? ⟨H, 0, none⟩ = some (.int .u64 (es.length : Int)) := (blk_cell h.h 0).trans rfl
 have c1 : w.cell? ⟨H, 1, none⟩ = some (.int .u64 ((es.length - 1 : Nat) : Int)) := (blk_cell h.h 1).trans rfl
 have c2 : w.cell? ⟨H, 2, none⟩ = some (.int .u64 (n : Int)) := (blk_cell h.h 2).trans rfl
 have c3 : w.cell? ⟨H, 3, none⟩ = some (.slice (some ⟨M, 0, none⟩) es.length es.length) := (blk_cell h.h 3).trans rfl
 have HX := Aside0.mk (fix_calls (.agg (tabL es.length (es.length - 1) n M es.length)) v0 v hv w es.length (es.length - 1) n M es.length rfl)
 unfold tabL at HX
 have HT := Aside0.mk h
 have HP := Aside0.mk (And.intro hp (And.intro hp2 (And.intro hes (And.intro hk (And.intro hi (And.intro hn hvb))))))
 have HL := Aside0.mk (show es.length ≤ 1048576 by omega)
 clear h hp hp2 hes hk hi hn hv hvb h2
 go_enter Tryz.func142, Tryz.ntmps142
 go_upto_region 4 with (first | (go_at_call 150; go_loud (with_reducible refine HX.out.mono ?_; rintro e w1 ⟨rfl, b1⟩; have t1 := HT.out.low b1; (have m := Ents.at t1.en i HP.out.2.2.2.2.1); obtain ⟨m0, m1, m2⟩ := m; have z0 := blk_frozen t1.m (i * 3); have z1 := blk_frozen t1.m (i * 3 + 1); have z2 := blk_frozen t1.m (i * 3 + 2); have T1 := Aside0.mk (And.intro t1 b1); clear t1 b1)))
 obtain ⟨t1, b1⟩ := T1.out
 have hHM : H ≠ M := blk_ne t1.h t1.m (by decide)
 have x1 := blk_far (blk_far (blk_far t1.h (p := ⟨M, i * 3, none⟩) hHM (.int .u64 (v : Int))) (p := ⟨M, i * 3 + 1, none⟩) hHM (.int .i32 x)) (p := ⟨M, i * 3 + 2, none⟩) hHM (.int .i32 (n : Int))
 have s2 := Ents.set t1.en i HP.out.2.2.2.2.1 ⟨v, x, n⟩
 have y1 := FrM.set (lo := lo) t1.m t1.lm (.inr rfl) (i * 3) (.int .u64 (v : Int))
 have u1 := blk_set t1.m (i * 3) (.int .u64 (v : Int))
 have y2 := FrM.set (lo := lo) u1 t1.lm (.inr rfl) (i * 3 + 1) (.int .i32 x)
 have u2 := blk_set u1 (i * 3 + 1) (.int .i32 x)
 have y3 := FrM.set (lo := lo) u2 t1.lm (.inr rfl) (i * 3 + 2) (.int .i32 (n : Int))
 have x4 := (FrM.low b1 HT.out.lt).trans (y1.trans (y2.trans y3))
 have x5 : Tab (((w1.setCell ⟨M, i * 3, none⟩ (.int .u64 (v : Int))).setCell ⟨M, i * 3 + 1, none⟩ (.int .i32 x)).setCell ⟨M, i * 3 + 2, none⟩ (.int .i32 (n : Int))) lo H M (es.set i ⟨v, x, n⟩) n := ⟨by rw [List.length_set]; exact x1, s2, t1.lh, t1.lm⟩
 clear t1 b1 x1 s2 y1 u1 y2 u2 y3 c0 c1 c2 c3 m0 m1 m2 z0 z1 z2 T1 HX
 generalize ((w1.setCell ⟨M, i * 3, none⟩ (.int .u64 (v : Int))).setCell ⟨M, i * 3 + 1, none⟩ (.int .i32 x)).setCell ⟨M, i * 3 + 2, none⟩ (.int .i32 (n : Int)) = w2 at x4 x5 ⊢
 have c2 : w2.cell? ⟨H, 2, none⟩ = some (.int .u64 (n : Int)) := (blk_cell x5.h 2).trans rfl
 have z2 := blk_frozen x5.h 2
 have hs : IntKind.u64.wrap ((n : Int) + 1) = ((n + 1 : Nat) : Int) := by have := HP.out.2.2.2.2.2.1; simp [IntKind.wrap, IntKind.bits, IntKind.signed]; omega
 obtain ⟨n1, hn1⟩ : ∃ n1, n1 = n + 1 := ⟨_, rfl⟩
 rw [← hn1] at hs
 have HN1 := Aside0.mk hn1
 clear hn1
 go_upto_region 5 with (fail)
 have t3 : Tab (w2.setCell ⟨H, 2, none⟩ (.int .u64 ((n + 1 : Nat) : Int))) lo H M (es.set i ⟨v, x, n⟩) (n + 1) := ⟨(blk_set x5.h 2 _).trans (by simp [tabL]), blk_far x5.m (p := ⟨H, 2, none⟩) (blk_ne x5.m x5.h (by decide)) _, x5.lh, x5.lm⟩
 have f3 := x4.trans (FrM.set (lo := lo) x5.h x5.lh (.inl rfl) 2 (.int .u64 ((n + 1 : Nat) : Int)))
 rw [← HN1.out] at t3 f3
 generalize w2.setCell ⟨H, 2, none⟩ (.int .u64 (n1 : Int)) = w3 at t3 f3 ⊢
 have hn1 := HN1.out
 have hk := HP.out.2.2.2.1
 rw [← hn1] at hk
 have hnb : n1 < 1000000 := by have := HP.out.2.2.2.2.2.1; omega
 have hlen : (es.set i ⟨v, x, n⟩).length = es.length := List.length_set
 clear c2 z2 hn1 x4 x5 hHM hs
 obtain ⟨bb, hbb⟩ : ∃ b, b = decide (es.length ≤ n1 * 2) := ⟨_, rfl⟩
 have hnd := need_calls t3.h hnb
 rw [hlen, ← hbb] at hnd
 have HND := Aside0.mk hnd
 have T3 := Aside0.mk (And.intro t3 f3)
 have hes1 : ∀ e ∈ es.set i ⟨v, x, n⟩, e.h < 18446744073709551616 := fun e he => by
  rcases List.mem_or_eq_of_mem_set he with he | rfl
  ·exact HP.out.2.2.1 e he
  ·exact HP.out.2.2.2.2.2.2
 by_cases c : es.length ≤ n1 * 2
 ·rw [if_pos c] at hk
  have hb : bb = true := hbb.trans (decide_eq_true c)
  subst hb
  have HUP := Aside0.mk (fun m => upsize_calls (w := w3.drewN m) ⟨t3.h, t3.m, t3.lh, t3.lm⟩ (by rw [hlen]; exact HP.out.1) HP.out.2.1 hes1 k es2 (by rw [hlen]; exact hk))
  rw [hlen] at HUP
  have hm1 : IntKind.u64.wrap ((es.length : Int) * 2) = ((es.length * 2 : Nat) : Int) := by have := HL.out; simp [IntKind.wrap, IntKind.bits, IntKind.signed]; omega
  have hm2 : IntKind.u64.wrap (((es.length * 2 : Nat) : Int) * 2) = ((es.length * 4 : Nat) : Int) := by have := HL.out; simp [IntKind.wrap, IntKind.bits, IntKind.signed]; omega
  have c0 : w3.cell? ⟨H, 0, none⟩ = some (.int .u64 (es.length : Int)) := (blk_cell t3.h 0).trans (by simp [tabL])
  generalize es.length * 2 = l2 at hm1 hm2
  generalize es.length * 4 = l4 at hm2 HUP
  clear t3 f3 hnd hes1 hk c hlen hbb hnb
  go_wp2_with (first | (go_at_call 151; go_loud (with_reducible refine HND.out.mono ?_; rintro e w4 ⟨rfl, m, rfl⟩)) | (go_at_call 152; go_loud (with_reducible refine (HUP.out _).mono ?_; rintro e w5 ⟨rfl, M2, t5, f5⟩; have T5 := Aside0.mk (And.intro t5 (FrM.trans (FrM.low (pw_below_drewN (Below.refl _ _) m) T3.out.1.lt) f5)); clear t5 f5)))
  go_ret
  rw [← HN1.out]
  exact ⟨rfl, M2, T5.out.1, T3.out.2.trans T5.out.2⟩
 ·rw [if_neg c] at hk
  have hb : bb = false := hbb.trans (decide_eq_false c)
  subst hb
  have hes2 : es.set i ⟨v, x, n⟩ = es2 := by simpa using hk
  have HE2 := Aside0.mk hes2
  clear t3 f3 hnd hes1 hk c hlen hbb hnb hes2
  go_wp2_with (first | (go_at_call 151; go_loud (with_reducible refine HND.out.mono ?_; rintro e w4 ⟨rfl, m, rfl⟩)))
  go_ret
  refine ⟨rfl, M, ?_, T3.out.2.trans (FrM.low (pw_below_drewN (Below.refl _ _) m) T3.out.1.lt)⟩
  rw [← HE2.out, ← HN1.out]
  exact T3.out.1.low (pw_below_drewN (Below.refl _ _) m)
end Go.Proofs.YtiieljnllgeoeaaGreat.Q

/- A memo asked for a number, or given it. -/
namespace Go.Proofs.YtiieljnllgeoeaaGreat.Q
open Go.RowKit Go.Proofs.YtiieljnllgeoeaaGreatW.PrintWords Go.Proofs.YtiieljnllgeoeaaGreatW.PrintLast Go.Proofs.YtiieljnllgeoeaaGreatW.PrintMore
set_option linter.unusedVariables false
set_option linter.unusedSimpArgs false
set_option maxHeartbeats 4000000 in
set_option maxRecDepth 100000 in
theorem lkt_calls {w : World} {lo H M n p : Nat} {es : List Ent} (h : Tab w lo H M es n) (hp : es.length = 2 ^ p) (hp2 : p ≤ 20) (hes : ∀ e ∈ es, e.h < 18446744073709551616)
  (P : Addr) (x : Int) (hP : w.cell? P = some (.int .i32 x)) (v0 : Int) (v : Nat) (hv : (v : Int) = if v0 = 0 then 42 else v0) (hvb : v < 18446744073709551616) (k r : Nat) (b : Bool) (hk : lk k es v (fun y => decide (x = y)) (v % es.length) (v / 32 + 1) = some (r, b)) :
  Calls Tryz.prog 139 #[.pointer (some ⟨H, 0, none⟩), .int .u64 v0, .func (.func 140) #[] #[.pointer (some P)]] w fun e w' => e = .returned (.tuple #[.pointer (some ⟨M, r * 3, none⟩), .bool b]) ∧ r < es.length ∧ Below w.heap.size w w' := by
 have c1 : w.cell? ⟨H, 1, none⟩ = some (.int .u64 ((es.length - 1 : Nat) : Int)) := (blk_cell h.h 1).trans rfl
 have HL := Aside0.mk (lk_eq h.h h.en hp (by omega) hes P x hP v0 v hv hvb k r b hk)
 have HT := Aside0.mk h
 clear h hp hp2 hes hP hv hvb hk
 go_enter Tryz.func139, Tryz.ntmps139
 go_wp2_with (first | (go_at_call 148; go_loud (with_reducible refine HL.out.mono ?_; rintro e w1 ⟨rfl, hr, b1⟩; have t1 := HT.out.low b1; have c3 : w1.cell? ⟨H, 3, none⟩ = some (.slice (some ⟨M, 0, none⟩) es.length es.length) := (blk_cell t1.h 3).trans rfl; have g1 : (0 : Int) ≤ (r : Int) := (by omega); have g2 : (r : Int) < (es.length : Int) := (by omega); have B1 := Aside0.mk (And.intro hr b1); clear hr b1 t1)))
 go_ret2
 exact ⟨rfl, B1.out.1, B1.out.2⟩
theorem Mm.low {w w1 : World} {lo T H M n : Nat} {es : List Ent} (h : Mm w lo T H M es n) (b : Below w.heap.size w w1) : Mm w1 lo T H M es n := ⟨(b.block T (blk_lt h.t)).trans h.t, h.lt, h.tab.low b⟩
set_option maxHeartbeats 4000000 in
set_option maxRecDepth 100000 in
theorem iog_calls {w : World} {lo T H M n p : Nat} {es : List Ent} (h : Mm w lo T H M es n) (hp : es.length = 2 ^ p) (hp2 : p ≤ 20) (hes : ∀ e ∈ es, e.h < 18446744073709551616) (hn : n < 100000) (x : Int) (k : Nat) (idx : Int) (fd : Bool) (es2 : List Ent) (n2 : Nat) (hidx : -2147483648 ≤ idx ∧ idx ≤ 2147483647)
  (hk : ins k hh es n x = some (idx, fd, es2, n2)) :
  Calls Tryz.prog 134 #[.pointer (some ⟨T, 0, none⟩), .int .i32 x] w fun e w' => e = .returned (.tuple #[.int .i64 idx, .bool fd, .nilIface]) ∧ ∃ M2, Mm w' lo T H M2 es2 n2 ∧ FrM lo w w' := by
 unfold ins at hk
 cases hlk : lk k es (hh x) (fun y => decide (x = y)) (hh x % es.length) (hh x / 32 + 1) with
 | none => rw [hlk] at hk; simp at hk
 | some rb =>
  obtain ⟨r, b⟩ := rb
  rw [hlk] at hk
  have hhv : ((hh x : Nat) : Int) = if hr0 x = 0 then 42 else hr0 x := by
   have := hr0_b x
   unfold hh
   split <;> omega
  have hhb := (hh_b x).2
  have HH := Aside0.mk (hash_calls x (w.alloc (.cells #[.int .i32 x] 21)))
  have h1 := h.low (below_alloc (Below.refl _ _) (.cells #[.int .i32 x] 21))
  have p1 : (w.alloc (.cells #[.int .i32 x] 21)).cell? ⟨w.heap.size, 0, none⟩ = some (.int .i32 x) := (blk_cell (blk_new w _) 0).trans rfl
  have p2 := blk_new w (.cells #[.int .i32 x] 21)
  have f1 : FrM lo w (w.alloc (.cells #[.int .i32 x] 21)) := FrM.low (below_alloc (Below.refl _ _) _) h.tab.lt
  have H1 := Aside0.mk (And.intro h1 (And.intro p2 f1))
  have HP := Aside0.mk (And.intro hp (And.intro hp2 (And.intro hes (And.intro hn (And.intro hidx (And.intro hhv (And.intro hhb hlk)))))))
  have HK := Aside0.mk hk
  clear h hp hp2 hes hn hidx hhv hhb hlk h1 f1 hk p2
  go_enter Tryz.func134, Tryz.ntmps134
  go_upto_region 2 with (first | (go_at_call 138; go_loud (with_reducible refine HH.out.mono ?_; rintro e w2 ⟨rfl, b2⟩; have B2 := Aside0.mk b2; clear b2)))
  obtain ⟨h1, p2, f1⟩ := H1.out
  have h2 := h1.low B2.out
  have q2 : w2.cell? ⟨w.heap.size, 0, none⟩ = some (.int .i32 x) := (blk_cell ((B2.out.block _ (blk_lt p2)).trans p2) 0).trans rfl
  have pp2 := (B2.out.block _ (blk_lt p2)).trans p2
  have f2 := f1.trans (FrM.low B2.out h1.tab.lt)
  have hT := h2.t
  obtain ⟨hp, hp2, hes, hn, hidx, hhv, hhb, hlk⟩ := HP.out
  have HLK := Aside0.mk (lkt_calls h2.tab hp hp2 hes ⟨w.heap.size, 0, none⟩ x q2 (hr0 x) (hh x) hhv hhb k r b hlk)
  have H2 := Aside0.mk (And.intro h2 (And.intro pp2 f2))
  have y0 : w2.cell? ⟨T, 0, none⟩ = some (.pointer (some ⟨H, 0, none⟩)) := (blk_cell h2.t 0).trans rfl
  clear h1 p2 f1 h2 pp2 f2 hT hp hp2 hes hn hidx hhv hhb hlk p1 q2 HH H1 B2
  generalize w.heap.size = P at HLK H2 ⊢
  go_upto_region 3 with (first | (go_at_call 139; go_loud (with_reducible refine HLK.out.mono ?_; rintro e w3 ⟨rfl, hr, b3⟩; have B3 := Aside0.mk (And.intro hr b3); clear hr b3)))
  obtain ⟨h2, pp2, f2⟩ := H2.out
  have h3 := h2.low B3.out.2
  have pp3 := (B3.out.2.block _ (blk_lt pp2)).trans pp2
  have f3 := f2.trans (FrM.low B3.out.2 h2.tab.lt)
  obtain ⟨m0, m1, m2⟩ := h3.tab.en.at r B3.out.1
  have H3 := Aside0.mk (And.intro h3 (And.intro pp3 f3))
  clear h2 pp2 f2 y0 HLK H2
  have hk := HK.out
  cases b with
  | true =>
   simp only [Option.some.injEq, Prod.mk.injEq] at hk
   obtain ⟨k1, k2, k3, k4⟩ := hk
   rw [k1] at m2
   have hcv : IntKind.i64.wrap idx = idx := by have := HP.out.2.2.2.2.1; rw [IntKind.wrap_i64]; omega
   have KK := Aside0.mk (And.intro k2 (And.intro k3 k4))
   clear k1 k2 k3 k4 h3 pp3 f3
   go_wp2
   go_ret3
   obtain ⟨k2, k3, k4⟩ := KK.out
   refine ⟨by rw [← k2]; rfl, ⟨M, ?_⟩, H3.out.2.2⟩
   rw [← k3, ← k4]
   exact H3.out.1
  | false =>
   have hkk : idx = (n : Int) ∧ fd = false ∧ n2 = n + 1 ∧ (if es.length ≤ (n + 1) * 2 then mv k (es.set r ⟨hh x, x, n⟩) (List.replicate (es.length * 4) e0) else some (es.set r ⟨hh x, x, n⟩)) = some es2 := by
    simp only at hk
    by_cases c : es.length ≤ (n + 1) * 2
    ·rw [if_pos c] at hk ⊢
     cases hm : mv k (es.set r ⟨hh x, x, n⟩) (List.replicate (es.length * 4) e0) with
     | none => rw [hm] at hk; simp at hk
     | some e2 =>
      rw [hm] at hk
      simp only [Option.some.injEq, Prod.mk.injEq] at hk
      exact ⟨hk.1.symm, hk.2.1.symm, hk.2.2.2.symm, by rw [hk.2.2.1]⟩
    ·rw [if_neg c] at hk ⊢
     simp only [Option.some.injEq, Prod.mk.injEq] at hk
     exact ⟨hk.1.symm, hk.2.1.symm, hk.2.2.2.symm, by rw [hk.2.2.1]⟩
   obtain ⟨k1, k2, k3, k4⟩ := hkk
   obtain ⟨hp, hp2, hes, hn, hidx, hhv, hhb, hlk⟩ := HP.out
   have HSZ := Aside0.mk (size_calls h3 (by omega))
   have HIN := Aside0.mk (fun m => insert_calls (w := w3.drewN m) (i := r) (h3.drewN m).tab hp hp2 hes hn B3.out.1 (hr0 x) (hh x) hhv hhb x k es2 k4)
   have hcv : IntKind.i32.wrap (n : Int) = (n : Int) := i32n n (by omega)
   have y0 : w3.cell? ⟨T, 0, none⟩ = some (.pointer (some ⟨H, 0, none⟩)) := (blk_cell h3.t 0).trans rfl
   have q3 : w3.cell? ⟨P, 0, none⟩ = some (.int .i32 x) := (blk_cell pp3 0).trans rfl
   have KK := Aside0.mk (And.intro k1 (And.intro k2 k3))
   clear hk k1 k2 k3 k4 hp hp2 hes hn hidx hhv hhb hlk h3 pp3 f3 m0 m1 m2
   go_upto_region 7 with (first | (go_at_call 136; go_loud (with_reducible refine HSZ.out.mono ?_; rintro e w4 ⟨rfl, m, rfl⟩)))
   have y0 : (w3.drewN m).cell? ⟨T, 0, none⟩ = some (.pointer (some ⟨H, 0, none⟩)) := y0
   have q3 : (w3.drewN m).cell? ⟨P, 0, none⟩ = some (.int .i32 x) := q3
   have HI2 := Aside0.mk (show Calls Tryz.prog 142 _ (w3.drewN m).drew (fun e w' => e = .returned .nilIface ∧ ∃ M2, Tab w' lo H M2 es2 (n + 1) ∧ FrM lo (w3.drewN m).drew w') from HIN.out (m + 1))
   have hbe : FrM lo w3 (w3.drewN m).drew := FrM.low (pw_below_drewN (Below.refl _ _) (m + 1)) H3.out.1.tab.lt
   have hT4 : (w3.drewN m).drew.heap[T]? = _ := H3.out.1.t
   have H4 := Aside0.mk (And.intro hbe hT4)
   clear hbe hT4 HIN HSZ
   generalize w3.drewN m = w4 at y0 q3 HI2 H4 ⊢
   go_still_tail 9, (by kernel_rfl)
   change wpList _ _ _ _ _ w4.drew
   go_wp2_with (first | (go_at_call 142; go_loud (with_reducible refine HI2.out.mono ?_; rintro e w5 ⟨rfl, M2, t5, f5⟩; have T5 := Aside0.mk (And.intro t5 f5); clear t5 f5)))
   go_ret3
   obtain ⟨k1, k2, k3⟩ := KK.out
   refine ⟨by rw [k1, k2]; rfl, M2, ⟨T5.out.2.keep _ _ _ H4.out.2 (by decide) (by decide), H3.out.1.lt, ?_⟩, (H3.out.2.2.trans H4.out.1).trans T5.out.2⟩
   rw [k3]
   exact T5.out.1
end Go.Proofs.YtiieljnllgeoeaaGreat.Q

/- A dictionary's entries written out. -/
namespace Go.Proofs.YtiieljnllgeoeaaGreat.Q
open Go.RowKit Go.Proofs.YtiieljnllgeoeaaGreatW.PrintWords Go.Proofs.YtiieljnllgeoeaaGreatW.PrintLast Go.Proofs.YtiieljnllgeoeaaGreatW.PrintMore
set_option linter.unusedVariables false
set_option linter.unusedSimpArgs false
theorem Row.put {w : World} {X : Nat} {l : List Int} (h : Row w X l) (i : Nat) (v : Int) : Row (w.setCell ⟨X, i, none⟩ (.int .u8 v)) X (l.set i v) := by
 have := blk_set h i (.int .u8 v)
 unfold Row
 rw [this, List.map_set]
 simp
theorem Row.alloc {w : World} {X : Nat} {l : List Int} (h : Row w X l) (o : Obj) : Row (w.alloc o) X l := blk_alloc h o
/-- Bytes, the lowest first. -/
def le4 (x : Int) : List Int := [x % 256, x / 256 % 256, x / 65536 % 256, x / 16777216 % 256]
theorem splice4 (l : List Int) (o : Nat) (h : o + 4 ≤ l.length) (a b c d : Int) : (((l.set o a).set (o + 1) b).set (o + 2) c).set (o + 3) d = l.take o ++ [a, b, c, d] ++ l.drop (o + 4) := by
 obtain ⟨P, hP⟩ : ∃ P, P = l.take o := ⟨_, rfl⟩
 have hPl : P.length = o := by rw [hP]; simp; omega
 obtain ⟨x0, x1, x2, x3, S, e⟩ : ∃ x0 x1 x2 x3 S, l.drop o = x0 :: x1 :: x2 :: x3 :: S := by
  have : 4 ≤ (l.drop o).length := by simp; omega
  match l.drop o, this with
  | x0 :: x1 :: x2 :: x3 :: S, _ => exact ⟨_, _, _, _, _, rfl⟩
 have hl : l = P ++ x0 :: x1 :: x2 :: x3 :: S := by rw [← e, hP, List.take_append_drop]
 have hd : l.drop (o + 4) = S := by rw [← List.drop_drop, e]; rfl
 rw [hd, ← hP, hl, ← hPl]
 simp [List.set_append]
set_option maxHeartbeats 4000000 in
set_option maxRecDepth 100000 in
theorem put32_calls (X o n c : Nat) (l : List Int) (x : Int) (w : World) (h : Row w X l) (hn : 4 ≤ n) (ho : o + 4 ≤ l.length) (h0 : 0 ≤ x) (h1 : x < 4294967296) :
  Calls Tryz.prog 164 #[.agg #[], .slice (some ⟨X, o, none⟩) n c, .int .u32 x] w fun e w' => e = .returned (.tuple #[]) ∧ Row w' X (l.take o ++ le4 x ++ l.drop (o + 4)) ∧ Kept w w' (fun k => k = X) ∧ Below X w w' := by
 have hX := h.lt
 have H := Aside0.mk h
 have c0 := h.cell o (by omega)
 have c1 := h.cell (o + 1) (by omega)
 have c2 := h.cell (o + 2) (by omega)
 have c3 := h.cell (o + 3) (by omega)
 have z0 : w.frozen? ⟨X, o, none⟩ = false := blk_frozen h _
 have z1 : w.frozen? ⟨X, o + 1, none⟩ = false := blk_frozen h _
 have z2 : w.frozen? ⟨X, o + 2, none⟩ = false := blk_frozen h _
 have z3 : w.frozen? ⟨X, o + 3, none⟩ = false := blk_frozen h _
 have g0 : (0 : Int) < (n : Int) := by omega
 have g1 : (1 : Int) < (n : Int) := by omega
 have g2 : (2 : Int) < (n : Int) := by omega
 have g3 : (3 : Int) < (n : Int) := by omega
 clear h
 go_enter Tryz.func164, Tryz.ntmps164
 go_wp2
 go_end0
 refine ⟨rfl, ?_, ?_, ?_⟩
 ·have := ((((H.out.put o (x % 256)).put (o + 1) (x / 256 % 256)).put (o + 2) (x / 65536 % 256)).put (o + 3) (x / 16777216)).alloc (.cells #[] 206)
  rw [splice4 l o ho] at this
  have e : x / 16777216 % 256 = x / 16777216 := by omega
  unfold le4
  rw [e]
  exact this
 ·exact (((((Kept.refl w (fun k => k = X)).setCell (.inl rfl) _).setCell (.inl rfl) _).setCell (.inl rfl) _).setCell (.inl rfl) _).alloc _
 ·refine (Below.setCell (p := ⟨X, o + 3, none⟩) (Below.setCell (p := ⟨X, o + 2, none⟩) (Below.setCell (p := ⟨X, o + 1, none⟩) (Below.setCell (p := ⟨X, o, none⟩) (Below.refl _ _) (Nat.le_refl _) _) (Nat.le_refl _) _) (Nat.le_refl _) _) (Nat.le_refl _) _).trans ((below_alloc (Below.refl _ _) _).mono ?_)
  simp; omega
set_option maxHeartbeats 4000000 in
set_option maxRecDepth 100000 in
theorem size_of_calls (w : World) : Calls Tryz.prog 53 #[] w fun e w' => e = .returned (.int .i64 4) ∧ Below w.heap.size w w' := by
 obtain ⟨y153, hb153⟩ : ∃ z, ∀ W : World, (Instr.typeAssert (.iface 152 (.pointer (some ⟨w.heap.size, 0, none⟩))) 20 153 true).run Tryz.prog W = .ok (.tuple #[z, .bool false]) W := ⟨_, fun W => by rfl⟩
 obtain ⟨y154, hb154⟩ : ∃ z, ∀ W : World, (Instr.typeAssert (.iface 152 (.pointer (some ⟨w.heap.size, 0, none⟩))) 20 154 true).run Tryz.prog W = .ok (.tuple #[z, .bool false]) W := ⟨_, fun W => by rfl⟩
 obtain ⟨y155, hb155⟩ : ∃ z, ∀ W : World, (Instr.typeAssert (.iface 152 (.pointer (some ⟨w.heap.size, 0, none⟩))) 20 155 true).run Tryz.prog W = .ok (.tuple #[z, .bool false]) W := ⟨_, fun W => by rfl⟩
 obtain ⟨y156, hb156⟩ : ∃ z, ∀ W : World, (Instr.typeAssert (.iface 152 (.pointer (some ⟨w.heap.size, 0, none⟩))) 20 156 true).run Tryz.prog W = .ok (.tuple #[z, .bool false]) W := ⟨_, fun W => by rfl⟩
 obtain ⟨y157, hb157⟩ : ∃ z, ∀ W : World, (Instr.typeAssert (.iface 152 (.pointer (some ⟨w.heap.size, 0, none⟩))) 20 157 true).run Tryz.prog W = .ok (.tuple #[z, .bool false]) W := ⟨_, fun W => by rfl⟩
 obtain ⟨y158, hb158⟩ : ∃ z, ∀ W : World, (Instr.typeAssert (.iface 152 (.pointer (some ⟨w.heap.size, 0, none⟩))) 20 158 true).run Tryz.prog W = .ok (.tuple #[z, .bool false]) W := ⟨_, fun W => by rfl⟩
 obtain ⟨y159, hb159⟩ : ∃ z, ∀ W : World, (Instr.typeAssert (.iface 152 (.pointer (some ⟨w.heap.size, 0, none⟩))) 20 159 true).run Tryz.prog W = .ok (.tuple #[z, .bool false]) W := ⟨_, fun W => by rfl⟩
 obtain ⟨y160, hb160⟩ : ∃ z, ∀ W : World, (Instr.typeAssert (.iface 152 (.pointer (some ⟨w.heap.size, 0, none⟩))) 20 160 true).run Tryz.prog W = .ok (.tuple #[z, .bool false]) W := ⟨_, fun W => by rfl⟩
 obtain ⟨y161, hb161⟩ : ∃ z, ∀ W : World, (Instr.typeAssert (.iface 152 (.pointer (some ⟨w.heap.size, 0, none⟩))) 20 161 true).run Tryz.prog W = .ok (.tuple #[z, .bool false]) W := ⟨_, fun W => by rfl⟩
 obtain ⟨y162, hb162⟩ : ∃ z, ∀ W : World, (Instr.typeAssert (.iface 152 (.pointer (some ⟨w.heap.size, 0, none⟩))) 20 162 true).run Tryz.prog W = .ok (.tuple #[z, .bool false]) W := ⟨_, fun W => by rfl⟩
 obtain ⟨y163, hb163⟩ : ∃ z, ∀ W : World, (Instr.typeAssert (.iface 152 (.pointer (some ⟨w.heap.size, 0, none⟩))) 20 163 true).run Tryz.prog W = .ok (.tuple #[z, .bool false]) W := ⟨_, fun W => by rfl⟩
 have ha : ∀ W : World, (Instr.typeAssert (.iface 152 (.pointer (some ⟨w.heap.size, 0, none⟩))) 20 152 true).run Tryz.prog W = .ok (.tuple #[.pointer (some ⟨w.heap.size, 0, none⟩), .bool true]) W := fun W => by kernel_rfl
 go_enter Tryz.func53, Tryz.ntmps53
 go_wp2
 go_ret
 exact ⟨rfl, by repeat (first | exact Below.refl _ _ | apply below_alloc)⟩
set_option maxHeartbeats 2000000 in
set_option maxRecDepth 100000 in
theorem size4_calls (w : World) : Calls Tryz.prog 32 #[] w fun e w' => e = .returned (.int .i64 4) ∧ Below w.heap.size w w' := by
 have HS := Aside0.mk (size_of_calls w)
 go_enter Tryz.func32, Tryz.ntmps32
 go_wp2_with (first | (go_at_call 53; go_loud (with_reducible refine HS.out.mono ?_; rintro e w1 ⟨rfl, b1⟩)))
 go_ret
 exact ⟨rfl, b1⟩
theorem Row.low {w w1 : World} {X : Nat} {l : List Int} (h : Row w X l) (b : Below w.heap.size w w1) : Row w1 X l := (b.block X h.lt).trans h
/-- Only a row changes. -/
def OnlyX (X : Nat) (w w' : World) : Prop := Kept w w' (fun k => k = X) ∧ Below X w w'
set_option maxHeartbeats 4000000 in
set_option maxRecDepth 100000 in
theorem putone_calls (X o n c : Nat) (l : List Int) (x : Int) (w : World) (h : Row w X l) (hn : 4 ≤ n) (ho : o + 4 ≤ l.length) :
  Calls Tryz.prog 161 #[.slice (some ⟨X, o, none⟩) n c, .int .i32 x] w fun e w' => e = .returned (.tuple #[]) ∧ Row w' X (l.take o ++ le4 (x % 4294967296) ++ l.drop (o + 4)) ∧ OnlyX X w w' := by
 obtain ⟨y153, hb153⟩ : ∃ z, ∀ W : World, (Instr.typeAssert (.iface 152 (.pointer (some ⟨w.heap.size, 0, none⟩))) 20 153 true).run Tryz.prog W = .ok (.tuple #[z, .bool false]) W := ⟨_, fun W => by rfl⟩
 obtain ⟨y154, hb154⟩ : ∃ z, ∀ W : World, (Instr.typeAssert (.iface 152 (.pointer (some ⟨w.heap.size, 0, none⟩))) 20 154 true).run Tryz.prog W = .ok (.tuple #[z, .bool false]) W := ⟨_, fun W => by rfl⟩
 obtain ⟨y155, hb155⟩ : ∃ z, ∀ W : World, (Instr.typeAssert (.iface 152 (.pointer (some ⟨w.heap.size, 0, none⟩))) 20 155 true).run Tryz.prog W = .ok (.tuple #[z, .bool false]) W := ⟨_, fun W => by rfl⟩
 obtain ⟨y156, hb156⟩ : ∃ z, ∀ W : World, (Instr.typeAssert (.iface 152 (.pointer (some ⟨w.heap.size, 0, none⟩))) 20 156 true).run Tryz.prog W = .ok (.tuple #[z, .bool false]) W := ⟨_, fun W => by rfl⟩
 obtain ⟨y157, hb157⟩ : ∃ z, ∀ W : World, (Instr.typeAssert (.iface 152 (.pointer (some ⟨w.heap.size, 0, none⟩))) 20 157 true).run Tryz.prog W = .ok (.tuple #[z, .bool false]) W := ⟨_, fun W => by rfl⟩
 have ha : ∀ W : World, (Instr.typeAssert (.iface 152 (.pointer (some ⟨w.heap.size, 0, none⟩))) 20 152 true).run Tryz.prog W = .ok (.tuple #[.pointer (some ⟨w.heap.size, 0, none⟩), .bool true]) W := fun W => by kernel_rfl
 have HX := Aside0.mk h
 have hlt := h.lt
 have HP := Aside0.mk (put32_calls X o n c l (x % 4294967296) (w.alloc (.cells #[.int .i32 x] 21)).drew (h.alloc _) hn ho (by omega) (by omega))
 have p1 : (w.alloc (.cells #[.int .i32 x] 21)).cell? ⟨w.heap.size, 0, none⟩ = some (.int .i32 x) := (blk_cell (blk_new w _) 0).trans rfl
 clear h hn ho
 go_enter Tryz.func161, Tryz.ntmps161
 go_upto_region 19 with (fail)
 have hcv : IntKind.u32.wrap x = x % 4294967296 := by simp [IntKind.wrap, IntKind.bits, IntKind.signed]
 have HK0 := Aside0.mk (And.intro ((Kept.refl w (fun k => k = X)).alloc (.cells #[.int .i32 x] 21)) ((below_drew (below_alloc (Below.refl w.heap.size w) (.cells #[.int .i32 x] 21))).mono (Nat.le_of_lt hlt)))
 generalize w.alloc (.cells #[.int .i32 x] 21) = w0 at HP p1 HK0 ⊢
 go_still_tail 6, (by kernel_rfl)
 change wpList _ _ _ _ _ w0.drew
 go_wp2_with (first | (go_at_call 164; go_loud (with_reducible refine HP.out.mono ?_; rintro e w1 ⟨rfl, e1, e2, e3⟩; have E1 := Aside0.mk (And.intro e1 (And.intro e2 e3)); clear e1 e2 e3)))
 go_end0
 obtain ⟨e1, e2, e3⟩ := E1.out
 exact ⟨rfl, e1, HK0.out.1.then_ ⟨e2.1, e2.2⟩ (fun k hk => .inl hk), HK0.out.2.trans e3⟩
set_option maxRecDepth 100000 in
theorem slice_4 (g m s : Nat) (h : s + 4 ≤ m) (hm : m ≤ 16777216) (W : World) : (Instr.sliceAt 23 (.slice (some ⟨g, 0, none⟩) m m) (some (.int .i64 (s : Int))) (some (.int .i64 ((s + 4 : Nat) : Int))) none).run Tryz.prog W = .ok (.slice (some ⟨g, s, none⟩) 4 (m - s)) W := by
 rw [run_sliceAt_slice W 23 _ _ _ _ Tryz.underlying23, run_slice_lh W 23 (some ⟨g, 0, none⟩) m m Tryz.underlying23 .i64 .i64 (s : Int) ((s + 4 : Nat) : Int) (by omega) (by omega) (by omega)]
 have hsz : (sizeOf (Tryz.prog.elem 23)).run Tryz.prog W = .ok 1 W := by kernel_rfl
 rw [hsz]
 simp only [Result.andThen, sliced, Int.toNat_natCast]
 rw [if_neg (by omega)]
 simp [Addr.add]
 try omega
set_option maxHeartbeats 4000000 in
set_option maxRecDepth 100000 in
theorem putat_calls (X i : Nat) (l : List Int) (x : Int) (w : World) (h : Row w X l) (ho : 4 * i + 4 ≤ l.length) (hm : l.length ≤ 16777216) :
  Calls Tryz.prog 160 #[.slice (some ⟨X, 0, none⟩) l.length l.length, .int .i64 (i : Int), .int .i32 x] w fun e w' => e = .returned (.tuple #[]) ∧ Row w' X (l.take (4 * i) ++ le4 (x % 4294967296) ++ l.drop (4 * i + 4)) ∧ OnlyX X w w' := by
 have HS := Aside0.mk (size_of_calls w)
 have HX := Aside0.mk (And.intro h (And.intro ho hm))
 have e1 : IntKind.i64.wrap ((i : Int) * 4) = ((4 * i : Nat) : Int) := by rw [IntKind.wrap_i64]; omega
 have e2 : IntKind.i64.wrap (((4 * i : Nat) : Int) + 4) = ((4 * i + 4 : Nat) : Int) := by rw [IntKind.wrap_i64]; omega
 have hsl := slice_4 X l.length (4 * i) ho hm
 have HP := Aside0.mk (fun W (hW : Row W X l) => putone_calls X (4 * i) 4 (l.length - 4 * i) l x W hW (by omega) ho)
 clear h ho hm
 obtain ⟨i4, hi4⟩ : ∃ i4, i4 = 4 * i := ⟨_, rfl⟩
 rw [← hi4] at e1 e2 hsl HP ⊢
 have HI4 := Aside0.mk hi4
 clear hi4
 obtain ⟨i5, hi5⟩ : ∃ i5, i5 = i4 + 4 := ⟨_, rfl⟩
 rw [← hi5] at e2 hsl
 clear hi5
 go_enter Tryz.func160, Tryz.ntmps160
 go_wp2_with (first | (go_at_call 53; go_loud (with_reducible refine HS.out.mono ?_; rintro e w1 ⟨rfl, b1⟩; have hx1 := HX.out.1.low b1; have HP1 := Aside0.mk (HP.out w1 hx1); have B1 := Aside0.mk b1; clear b1 hx1)) | (go_at_call 161; go_loud (with_reducible refine HP1.out.mono ?_; rintro e w2 ⟨rfl, r2, o2⟩; have R2 := Aside0.mk (And.intro r2 o2); clear r2 o2)))
 go_end0
 obtain ⟨r2, o2⟩ := R2.out
 exact ⟨rfl, r2, ((Kept.refl w (fun k => k = X)).below B1.out).then_ o2.1 (fun k hk => .inl hk), (B1.out.mono (Nat.le_of_lt (HX.out.1.lt))).trans o2.2⟩
set_option maxHeartbeats 4000000 in
set_option maxRecDepth 100000 in
theorem visit_calls (X V p1 p2 i : Nat) (l : List Int) (hx x : Int) (w : World) (h : Row w X l) (ho : 4 * i + 4 ≤ l.length) (hm : l.length ≤ 16777216) (hV : w.heap[V]? = some (.cells #[.int .u64 hx, .int .i32 x, .int .i32 (i : Int)] 247))
  (h1 : w.heap[p1]? = some (.cells #[.int .i64 0] 3)) (h2 : w.heap[p2]? = some (.cells #[.slice (some ⟨X, 0, none⟩) l.length l.length] 23)) :
  Calls Tryz.prog 159 #[.pointer (some ⟨V, 0, none⟩), .pointer (some ⟨p1, 0, none⟩), .pointer (some ⟨p2, 0, none⟩)] w fun e w' => e = .returned (.tuple #[]) ∧ Row w' X (l.take (4 * i) ++ le4 (x % 4294967296) ++ l.drop (4 * i + 4)) ∧ OnlyX X w w' := by
 have v1 : w.cell? ⟨V, 1, none⟩ = some (.int .i32 x) := (blk_cell hV 1).trans rfl
 have v2 : w.cell? ⟨V, 2, none⟩ = some (.int .i32 (i : Int)) := (blk_cell hV 2).trans rfl
 have a1 : w.cell? ⟨p1, 0, none⟩ = some (.int .i64 0) := (blk_cell h1 0).trans rfl
 have a2 : w.cell? ⟨p2, 0, none⟩ = some (.slice (some ⟨X, 0, none⟩) l.length l.length) := (blk_cell h2 0).trans rfl
 have e1 : IntKind.i32.wrap (i : Int) = (i : Int) := by simp [IntKind.wrap, IntKind.bits, IntKind.signed]; omega
 have e2 : IntKind.i64.wrap (i : Int) = (i : Int) := i64n i (by omega)
 have hd : decide ((i : Int) ≥ 0) = true := decide_eq_true (by omega)
 have HP := Aside0.mk (fun W (hW : Row W X l) => putat_calls X i l x W hW ho hm)
 have HX := Aside0.mk h
 clear h hV h1 h2 ho hm
 go_enter Tryz.func159, Tryz.ntmps159
 go_upto_region 0 with (fail)
 go_quiet (fail)
 have v1 : (w.drewN nq).cell? ⟨V, 1, none⟩ = some (.int .i32 x) := v1
 have a2 : (w.drewN nq).cell? ⟨p2, 0, none⟩ = some (.slice (some ⟨X, 0, none⟩) l.length l.length) := a2
 have HP1 := Aside0.mk (HP.out (w.drewN nq).drew HX.out)
 have HK0 := Aside0.mk (And.intro ((Kept.refl w (fun k => k = X)).drewN (nq + 1)) (pw_below_drewN (Below.refl X w) (nq + 1)))
 have HK0 : Aside0 (Kept w (w.drewN nq).drew (fun k => k = X) ∧ Below X w (w.drewN nq).drew) := HK0
 clear HP a1
 generalize w.drewN nq = w0 at v1 a2 HP1 HK0 ⊢
 go_upto_region 2 with (fail)
 go_still_tail 8, (by kernel_rfl)
 change wpList _ _ _ _ _ w0.drew
 go_wp2_with (first | (go_at_call 160; go_loud (with_reducible refine HP1.out.mono ?_; rintro e w1 ⟨rfl, r1, o1⟩; have R1 := Aside0.mk (And.intro r1 o1); clear r1 o1)))
 go_end0
 exact ⟨rfl, R1.out.1, HK0.out.1.then_ R1.out.2.1 (fun k hk => .inl hk), HK0.out.2.trans R1.out.2.2⟩
end Go.Proofs.YtiieljnllgeoeaaGreat.Q
