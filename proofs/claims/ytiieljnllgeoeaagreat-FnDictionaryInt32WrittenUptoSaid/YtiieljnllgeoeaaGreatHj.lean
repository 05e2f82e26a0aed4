/- The encoder by a dictionary: numbers given to it. -/
import Derived.Test.YtiieljnllgeoeaaGreatHi
namespace Go.Proofs.YtiieljnllgeoeaaGreat.Q
open Go.RowKit Go.Proofs.YtiieljnllgeoeaaGreatW.PrintWords Go.Proofs.YtiieljnllgeoeaaGreatW.PrintLast Go.Proofs.YtiieljnllgeoeaaGreatW.PrintMore
set_option linter.unusedVariables false
set_option linter.unusedSimpArgs false
def dist (P : List Int) : List Int := P.foldl more []
def nums (P : List Int) : List Nat := P.map fun x => (dist P).idxOf x
theorem dist_snoc (P : List Int) (x : Int) : dist (P ++ [x]) = more (dist P) x := by unfold dist; rw [List.foldl_append]; rfl
theorem more_mem (D : List Int) (x y : Int) (h : y ∈ D ∨ y = x) : y ∈ more D x := by
 unfold more
 split
 ·rcases h with h | rfl
  ·exact h
  ·assumption
 ·rcases h with h | rfl
  ·exact List.mem_append_left _ h
  ·simp
theorem mem_dist (P : List Int) : ∀ y ∈ P, y ∈ dist P := by
 have h : ∀ (P D : List Int) (y : Int), (y ∈ P ∨ y ∈ D) → y ∈ P.foldl more D := by
  intro P
  induction P with
  | nil =>
   intro D y h
   rcases h with h | h
   ·simp at h
   ·exact h
  | cons x P ih =>
   intro D y h
   apply ih
   rcases h with h | h
   ·rcases List.mem_cons.1 h with rfl | h
    ·exact .inr (more_mem _ _ _ (.inr rfl))
    ·exact .inl h
   ·exact .inr (more_mem _ _ _ (.inl h))
 exact fun y hy => h P [] y (.inl hy)
theorem more_idx (D : List Int) (x y : Int) (h : y ∈ D ∨ y = x) : (more D x).idxOf y = D.idxOf y := by
 unfold more
 by_cases c : x ∈ D
 ·rw [if_pos c]
 ·rw [if_neg c]
  rcases h with h | rfl
  ·rw [List.idxOf_append, if_pos h]
  ·rw [List.idxOf_append, if_neg c, List.idxOf_eq_length c]; simp
theorem nums_snoc (P : List Int) (x : Int) : nums (P ++ [x]) = nums P ++ [(dist P).idxOf x] := by
 unfold nums
 rw [List.map_append, dist_snoc, List.map_cons, List.map_nil, more_idx _ _ _ (.inr rfl)]
 congr 1
 exact List.map_congr_left fun y hy => more_idx _ _ _ (.inl (mem_dist P y hy))
theorem nums_len (P : List Int) : (nums P).length = P.length := by simp [nums]
theorem more_len (D : List Int) (x : Int) : (more D x).length ≤ D.length + 1 := by unfold more; split <;> simp
theorem dist_len (P : List Int) : (dist P).length ≤ P.length := by
 have h : ∀ (P D : List Int), (P.foldl more D).length ≤ D.length + P.length := by
  intro P
  induction P with
  | nil => intro D; simp
  | cons x P ih =>
   intro D
   have := ih (more D x)
   have := more_len D x
   simp only [List.foldl_cons, List.length_cons]
   omega
 have h2 := h P []
 rw [List.length_nil, Nat.zero_add] at h2
 exact h2
theorem nums_lt (P : List Int) : ∀ v ∈ nums P, v < (dist P).length := by
 intro v hv
 obtain ⟨x, hx, rfl⟩ := List.mem_map.1 hv
 exact List.idxOf_lt_length_iff.2 (mem_dist P x hx)
/-- Numbers that are read. -/
def InR (w : World) (G : Nat) (xs : List Int) : Prop := ∃ cs : Array Value, w.heap[G]? = some (.cells cs 21 (0, 0)) ∧ cs.toList.take xs.length = xs.map (Value.int .i32)
theorem InR.at {w : World} {G : Nat} {xs : List Int} (h : InR w G xs) (j : Nat) (hj : j < xs.length) : w.cell? ⟨G, j, none⟩ = some (.int .i32 (xs.getD j 0)) := by
 obtain ⟨cs, hr, ht⟩ := h
 rw [blk_cell hr j]
 have e : (cs.toList.take xs.length)[j]? = (xs.map (Value.int .i32))[j]? := by rw [ht]
 rw [List.getElem?_take_of_lt hj] at e
 rw [← Array.getElem?_toList, e]
 simp [List.getD_eq_getElem?_getD, hj]
theorem InR.same {w w' : World} {G : Nat} {xs : List Int} (h : InR w G xs) (hs : w'.heap[G]? = w.heap[G]?) : InR w' G xs := by
 obtain ⟨cs, hr, ht⟩ := h
 exact ⟨cs, hs.trans hr, ht⟩
theorem InR.lt {w : World} {G : Nat} {xs : List Int} (h : InR w G xs) : G < w.heap.size := by
 obtain ⟨cs, hr, ht⟩ := h
 exact blk_lt hr
theorem Dc.low {w w1 : World} {lo E T H M n S : Nat} {ds : Int} {iv : Value} {raw : Int} {es : List Ent} (h : Dc w lo E T H M es n S ds iv raw) (b : Below w.heap.size w w1) : Dc w1 lo E T H M es n S ds iv raw := h.keep b.block
theorem Ix.low {w w1 : World} {lo I c : Nat} {V : List Nat} (h : Ix w lo I c V) (b : Below w.heap.size w w1) : Ix w1 lo I c V := h.keep b.block
theorem InR.low {w w1 : World} {G : Nat} {xs : List Int} (h : InR w G xs) (b : Below w.heap.size w w1) : InR w1 G xs := h.same (b.block G h.lt)
theorem Dc.lot {w : World} {lo E T H M n S : Nat} {ds : Int} {iv : Value} {raw : Int} {es : List Ent} (h : Dc w lo E T H M es n S ds iv raw) : lo ≤ w.heap.size := Nat.le_trans h.le (Nat.le_of_lt (blk_lt h.e))
theorem Dc.far {w : World} {lo E T H M n S : Nat} {ds : Int} {iv : Value} {raw : Int} {es : List Ent} (h : Dc w lo E T H M es n S ds iv raw) {G : Nat} {cs : Array Value} (hG : w.heap[G]? = some (.cells cs 21 (0, 0))) (j : Nat) (v : Value) : Dc (w.setCell ⟨G, j, none⟩ v) lo E T H M es n S ds iv raw :=
 ⟨blk_far h.e (p := ⟨G, j, none⟩) (blk_ne h.e hG (by decide)) v, h.le, ⟨blk_far h.mm.t (p := ⟨G, j, none⟩) (blk_ne h.mm.t hG (by decide)) v, h.mm.lt, ⟨blk_far h.mm.tab.h (p := ⟨G, j, none⟩) (blk_ne h.mm.tab.h hG (by decide)) v, blk_far h.mm.tab.m (p := ⟨G, j, none⟩) (blk_ne h.mm.tab.m hG (by decide)) v, h.mm.tab.lh, h.mm.tab.lm⟩⟩⟩
/-- The encoder, with what it was given told plainly. -/
structure Dk (w : World) (lo E T H M S : Nat) (a : Option Addr) (c : Nat) (es : List Ent) (P : List Int) : Prop where
 dc : ∃ raw, Dc w lo E T H M es (dist P).length S (4 * ((dist P).length : Int)) (.slice a (nums P).length c) raw
 iv : Iv w lo a c (nums P)
 tb : Tb hh es (dist P)
 sz : es.length ≤ max 64 (8 * P.length)
 c : c ≤ 100000000
/-- The encoder, in the midst of a part. -/
structure Lp (w w0 : World) (lo E T H S I c N : Nat) (M : Nat) (es : List Ent) (P : List Int) (G : Nat) (xs : List Int) : Prop where
 dc : ∃ raw, Dc w lo E T H M es (dist P).length S (4 * ((dist P).length : Int)) (.slice (some ⟨I, 0, none⟩) N c) raw
 ix : Ix w lo I c (nums P)
 inn : InR w G xs
 tb : Tb hh es (dist P)
 sz : es.length ≤ max 64 (8 * P.length)
 be : Below lo w0 w
theorem Ix.push {w : World} {lo I c : Nat} {V : List Nat} (h : Ix w lo I c V) (v : Nat) (hc : V.length + 1 ≤ c) : Ix (w.setCell ⟨I, V.length, none⟩ (.int .i32 (v : Int))) lo I c (V ++ [v]) := by
 obtain ⟨cs, hr, ht, hs⟩ := h.r
 refine ⟨⟨cs.set! V.length (.int .i32 (v : Int)), blk_set hr V.length _, ?_, by simpa using hs⟩, by simpa using hc, h.lo⟩
 have hl : V.length < cs.toList.length := by simp; omega
 have e : (cs.set! V.length (Value.int .i32 (v : Int))).toList = cs.toList.set V.length (.int .i32 (v : Int)) := by simp
 rw [e, List.length_append, List.length_singleton, List.take_succ_eq_append_getElem (by rw [List.length_set]; exact hl), List.take_set_of_le (Nat.le_refl _), ht, List.getElem_set_self, List.map_append]
 rfl
theorem Ix.some {w : World} {lo I c : Nat} {V : List Nat} (h : Ix w lo I c V) (j : Nat) (hj : j < c) : (∃ v, w.cell? ⟨I, j, none⟩ = some v) ∧ w.frozen? ⟨I, j, none⟩ = false := by
 obtain ⟨cs, hr, ht, hs⟩ := h.r
 exact ⟨⟨cs[j]'(by omega), (blk_cell hr j).trans (by simp [hs, hj])⟩, blk_frozen hr j⟩
theorem tb_pow {es : List Ent} {D : List Int} (h : Tb hh es D) (hl : es.length ≤ 100000) : ∃ p, es.length = 2 ^ p ∧ p ≤ 20 := by
 obtain ⟨p, e⟩ := h.pow
 refine ⟨p, e, ?_⟩
 rcases Nat.lt_or_ge 20 p with q | q
 ·have : (2 : Nat) ^ 21 ≤ 2 ^ p := Nat.pow_le_pow_right (by omega) q
  omega
 ·exact q
theorem tb_h {es : List Ent} {D : List Int} (h : Tb hh es D) : ∀ e ∈ es, e.h < 18446744073709551616 := by
 intro e he
 by_cases c : e.h = 0
 ·omega
 ·obtain ⟨_, _, _, m⟩ := h.inv.inn e he c
  rw [m]; exact (hh_b _).2
set_option maxRecDepth 100000 in
theorem slice_hi (g n cap h : Nat) (hh : h ≤ cap) (hc : cap ≤ 100000000) (W : World) : (Instr.sliceAt 52 (.slice (some ⟨g, 0, none⟩) n cap) none (some (.int .i64 (h : Int))) none).run Tryz.prog W = .ok (.slice (some ⟨g, 0, none⟩) h cap) W := by
 rw [run_sliceAt_slice W 52 _ _ _ _ Tryz.underlying52, run_slice_h W 52 (some ⟨g, 0, none⟩) n cap Tryz.underlying52 .i64 (h : Int) (by omega) (by omega)]
 have hsz : (sizeOf (Tryz.prog.elem 52)).run Tryz.prog W = .ok 1 W := by kernel_rfl
 rw [hsz]
 simp [Result.andThen, sliced, Addr.add]
set_option maxHeartbeats 4000000 in
set_option maxRecDepth 100000 in
theorem putd_calls {w : World} {lo E T H M S c : Nat} {a : Option Addr} {es : List Ent} {P : List Int} (h : Dk w lo E T H M S a c es P) (A : Option Addr) (cap : Nat) (xs : List Int) (hG : 0 < xs.length → ∃ G, A = some ⟨G, 0, none⟩ ∧ InR w G xs ∧ ∀ I, a = some ⟨I, 0, none⟩ → G ≠ I) (hl : P.length + xs.length ≤ 1000) :
  Calls Tryz.prog 15 #[.pointer (some ⟨E, 0, none⟩), .slice A xs.length cap] w fun e w' => e = .returned (.tuple #[]) ∧ ∃ M2 a2 c2 es2, Dk w' lo E T H M2 S a2 c2 es2 (P ++ xs) ∧ Below lo w w' := by
 by_cases q : xs.length = 0
 ·have hx : xs = [] := List.eq_nil_of_length_eq_zero q
  subst hx
  have RES := Aside0.mk h
  clear h hG hl q
  go_enter Tryz.func15, Tryz.ntmps15
  go_wp2
  refine bodyPost_ret (results_none rfl _ _ _) rfl ?_
  exact ⟨rfl, M, a, c, es, by simpa using RES.out, Below.refl _ _⟩
 ·obtain ⟨G, rfl, hIn, hGI⟩ := hG (by omega)
  obtain ⟨raw, hd⟩ := h.dc
  have hnl := nums_len P
  have d0 : ((xs.length : Int) == 0) = false := beq_eq_false_iff_ne.mpr (by omega)
  have d00 : decide ((xs.length : Int) = 0) = false := decide_eq_false (by omega)
  have c4 : w.cell? ⟨E, 4, none⟩ = some (.slice a (nums P).length c) := (blk_cell hd.e 4).trans rfl
  have hN : IntKind.i64.wrap (((nums P).length : Int) + (xs.length : Int)) = (((nums P).length + xs.length : Nat) : Int) := by rw [IntKind.wrap_i64]; omega
  have HEX := Aside0.mk (expand_calls (m := (nums P).length + xs.length) hd h.iv (by omega) (by omega) h.c)
  have HH := Aside0.mk (And.intro hIn (And.intro hGI (And.intro hl (And.intro hnl h))))
  obtain ⟨N, hNN⟩ : ∃ N, N = (nums P).length + xs.length := ⟨_, rfl⟩
  rw [← hNN] at hN HEX
  have HN := Aside0.mk hNN
  clear h hG hd hIn hGI hl hnl hNN
  go_enter Tryz.func15, Tryz.ntmps15
  go_upto_region 3 with (first | (go_at_call 31; go_loud (with_reducible refine HEX.out.mono ?_; rintro e w1 ⟨rfl, ex⟩; have EX := Aside0.mk ex; clear ex)))
  obtain ⟨I, c1, hI, d1, i1, hc1, hc2, k1, b1⟩ := EX.out
  have hIn := HH.out.1
  have hlG := hIn.lt
  have nGE : G ≠ E := by
   obtain ⟨cs, hr, _⟩ := hIn
   intro e
   rw [e] at hlG hr
   have hE := d1.e
   obtain ⟨raw0, hd0⟩ := HH.out.2.2.2.2.dc
   exact blk_ne hr hd0.e (by decide) rfl
  have nGI : G ≠ I := by
   rcases hI with hI | hI
   ·exact HH.out.2.1 I hI
   ·omega
  have in1 := hIn.same (k1.2 G hlG nGE)
  have c4' : w1.cell? ⟨E, 4, none⟩ = some (.slice (some ⟨I, 0, none⟩) (nums P).length c1) := (blk_cell d1.e 4).trans rfl
  have z4 := blk_frozen d1.e 4
  have hsl := slice_hi I (nums P).length c1 N hc1 hc2
  have d2 := d1.set 4 (.slice (some ⟨I, 0, none⟩) N c1) rfl
  have nEI : I ≠ E := by
   obtain ⟨cs, hr, _, _⟩ := i1.r
   exact blk_ne hr d1.e (by decide)
  have i2 : Ix (w1.setCell ⟨E, 4, none⟩ (.slice (some ⟨I, 0, none⟩) N c1)) lo I c1 (nums P) := by
   obtain ⟨cs, hr, ht, hs⟩ := i1.r
   exact ⟨⟨cs, blk_far hr (p := ⟨E, 4, none⟩) nEI _, ht, hs⟩, i1.le, i1.lo⟩
  have in2 : InR (w1.setCell ⟨E, 4, none⟩ (.slice (some ⟨I, 0, none⟩) N c1)) G xs := by
   obtain ⟨cs, hr, ht⟩ := in1
   exact ⟨cs, blk_far hr (p := ⟨E, 4, none⟩) nGE _, ht⟩
  have LP := Aside0.mk (show Lp (w1.setCell ⟨E, 4, none⟩ (.slice (some ⟨I, 0, none⟩) N c1)) w lo E T H S I c1 N M es P G xs from ⟨⟨raw, d2⟩, i2, in2, HH.out.2.2.2.2.tb, HH.out.2.2.2.2.sz, Below.setCell (p := ⟨E, 4, none⟩) b1 d1.le _⟩)
  have HG := Aside0.mk (And.intro nGI (And.intro nGE (And.intro nEI (And.intro hc1 hc2))))
  clear hIn hlG nGE nGI in1 nEI i2 in2 d1 i1 hc1 hc2 k1 b1 hI EX HEX c4 d2
  go_upto_region 4 with (fail)
  clear c4' z4 hsl
  generalize w1.setCell ⟨E, 4, none⟩ (.slice (some ⟨I, 0, none⟩) N c1) = w2 at LP ⊢
  obtain ⟨raw2, hd2⟩ := LP.out.dc
  have c5 : w2.cell? ⟨E, 5, none⟩ = some (.iface 86 (.pointer (some ⟨T, 0, none⟩))) := (blk_cell hd2.e 5).trans rfl
  have ha : ∀ W : World, (Instr.typeAssert (.iface 86 (.pointer (some ⟨T, 0, none⟩))) 61 90 false).run Tryz.prog W = .ok (.iface 86 (.pointer (some ⟨T, 0, none⟩))) W := fun W => by kernel_rfl
  clear hd2 hN
  go_wp2
  clear c5 ha
  go_loopg [50] (xs.length + 1) (fun kq v50 w' => ∃ (i M' : Nat) (es' : List Ent), v50 = .int .i64 (i : Int) ∧ Aside0 (i + kq = xs.length + 1 ∧ i ≤ xs.length) ∧ Aside0 (Lp w' w lo E T H S I c1 N M' es' (P ++ xs.take i) G xs))
  case atStart => exact ⟨0, M, es, rfl, ⟨by omega, by omega⟩, ⟨by simpa using LP.out⟩⟩
  case round =>
   obtain ⟨i, M', es', rfl, HI, HL⟩ := hrel
   clear LP
   obtain ⟨k1, rfl⟩ : ∃ k1, gk = k1 + 1 := ⟨gk - 1, by have := HI.out; omega⟩
   by_cases ci : i < xs.length
   ·have d1 : decide ((i : Int) < (xs.length : Int)) = true := decide_eq_true (by omega)
    have d2 : decide (i < xs.length) = true := decide_eq_true ci
    have q1 : (0 : Int) ≤ (i : Int) := by omega
    have q2 : (i : Int) < (xs.length : Int) := by omega
    have hcell := HL.out.inn.at i ci
    have htk : P ++ xs.take (i + 1) = (P ++ xs.take i) ++ [xs.getD i 0] := by
     rw [List.take_succ_eq_append_getElem ci, List.getD_eq_getElem?_getD, List.getElem?_eq_getElem ci, List.append_assoc]
     rfl
    have hlen : (P ++ xs.take i).length = P.length + i := by simp; omega
    generalize xs.getD i 0 = x at hcell htk
    have HTK := Aside0.mk htk
    clear htk
    obtain ⟨raw', hd⟩ := HL.out.dc
    have hix := HL.out.ix
    have htb := HL.out.tb
    have hsz := HL.out.sz
    have hdl := dist_len (P ++ xs.take i)
    have hnl := nums_len (P ++ xs.take i)
    have htot := HH.out.2.2.1
    have HPi := Aside0.mk (And.intro hlen (And.intro hdl (And.intro hnl htot)))
    generalize hPi : P ++ xs.take i = Pi at hd hix htb hsz hdl hnl hlen HTK HPi
    clear hPi
    obtain ⟨p, hp, hp2⟩ := tb_pow htb (by omega)
    obtain ⟨k0, hk0⟩ := ins_is hh_b htb x
    obtain ⟨es2, hins, htb2, hlen2⟩ := hk0 k0 (Nat.le_refl _)
    have hio := iog_calls hd.mm hp hp2 (tb_h htb) (by omega) x k0 _ _ es2 _ (by have := List.idxOf_le_length (a := x) (l := dist Pi); omega) hins
    have HS := Aside0.mk (And.intro hd (And.intro hix (And.intro HL.out.inn (And.intro htb2 (And.intro hlen2 (And.intro hsz HL.out.be))))))
    have hidx : (dist Pi).idxOf x ≤ (dist Pi).length := List.idxOf_le_length
    have HIX := Aside0.mk hidx
    obtain ⟨v, hv⟩ : ∃ v, v = (dist Pi).idxOf x := ⟨_, rfl⟩
    rw [← hv] at hio
    have HV := Aside0.mk hv
    have c5 : wr.cell? ⟨E, 5, none⟩ = some (.iface 86 (.pointer (some ⟨T, 0, none⟩))) := (blk_cell hd.e 5).trans rfl
    clear hd hix htb hsz hp hp2 hins htb2 hlen2 hk0 hdl hnl hlen htot HL ci hidx hv
    obtain ⟨fd, hfd⟩ : ∃ b, b = decide (x ∈ dist Pi) := ⟨_, rfl⟩
    rw [← hfd] at hio
    have HFD := Aside0.mk hfd
    have HIO := Aside0.mk hio
    clear hio hfd
    go_upto_if 66 with (first | (go_at_call 134; go_loud (with_reducible refine HIO.out.mono ?_; rintro e w4 ⟨rfl, M2, m4, f4⟩; have M4 := Aside0.mk (And.intro m4 f4); clear m4 f4)))
    obtain ⟨hd, hix, hin, htb2, hlen2, hsz, hbe⟩ := HS.out
    have e4 := M4.out.2.keep E 67 _ hd.e (by decide) (by decide)
    have d4 : Dc w4 lo E T H M2 es2 (more (dist Pi) x).length S (4 * ((dist Pi).length : Int)) (.slice (some ⟨I, 0, none⟩) N c1) raw' := ⟨e4, hd.le, M4.out.1⟩
    have i4 : Ix w4 lo I c1 (nums Pi) := by
     obtain ⟨cs, hr, ht, hs⟩ := hix.r
     exact ⟨⟨cs, M4.out.2.keep I 21 _ hr (by decide) (by decide), ht, hs⟩, hix.le, hix.lo⟩
    have in4 : InR w4 G xs := by
     obtain ⟨cs, hr, ht⟩ := hin
     exact ⟨cs, M4.out.2.keep G 21 _ hr (by decide) (by decide), ht⟩
    have b4 := hbe.trans M4.out.2.below
    have W4 := Aside0.mk (And.intro d4 (And.intro i4 (And.intro in4 b4)))
    have TB2 := Aside0.mk (And.intro htb2 (And.intro hlen2 hsz))
    clear hd hix hin htb2 hlen2 hsz hbe e4 d4 i4 in4 b4 HS HIO c5 M4
    go_cut [] (fun wc => ∃ raw2, Aside0 (Dc wc lo E T H M2 es2 (more (dist Pi) x).length S (4 * ((more (dist Pi) x).length : Int)) (.slice (some ⟨I, 0, none⟩) N c1) raw2) ∧ Aside0 (Ix wc lo I c1 (nums Pi)) ∧ Aside0 (InR wc G xs) ∧ Aside0 (Below lo w wc))
    case first =>
     by_cases hx : x ∈ dist Pi
     ·have hb : fd = true := HFD.out.trans (decide_eq_true hx)
      have hmo : more (dist Pi) x = dist Pi := by unfold more; rw [if_pos hx]
      have HMO := Aside0.mk hmo
      clear hx hmo HFD
      subst hb
      go_wp2
      go_meet
      case rel => exact ⟨raw', ⟨by have := W4.out.1; rw [HMO.out] at this ⊢; exact this⟩, ⟨W4.out.2.1⟩, ⟨W4.out.2.2.1⟩, ⟨W4.out.2.2.2⟩⟩
     ·have hb : fd = false := HFD.out.trans (decide_eq_false hx)
      have hmo : (more (dist Pi) x).length = (dist Pi).length + 1 := by unfold more; rw [if_neg hx]; simp
      have HMO := Aside0.mk hmo
      clear hx hmo HFD
      subst hb
      have c3 : w4.cell? ⟨E, 3, none⟩ = some (.int .i64 (4 * ((dist Pi).length : Int))) := (blk_cell W4.out.1.e 3).trans rfl
      have z3 := blk_frozen W4.out.1.e 3
      go_upto_region 12 with (fail)
      have HSZ := Aside0.mk (fun W => size4_calls W)
      have HF4 := Aside0.mk (fun (w6 : World) (b : Below w4.drew.heap.size w4.drew w6) => (show w6.heap[E]? = _ from (b.block E (blk_lt W4.out.1.e)).trans W4.out.1.e))
      have hsum : IntKind.i64.wrap (4 * ((dist Pi).length : Int) + 4) = 4 * ((dist Pi).length : Int) + 4 := by rw [IntKind.wrap_i64]; have := HPi.out; omega
      go_region_with (first | (go_at_call 32; go_loud (refine (HSZ.out _).mono ?_; rintro e w6 ⟨rfl, b6⟩; have e6 := HF4.out w6 b6; have c3 : w6.cell? ⟨E, 3, none⟩ = some (.int .i64 (4 * ((dist Pi).length : Int))) := (blk_cell e6 3).trans rfl; have z3 := blk_frozen e6 3; have B6 := Aside0.mk b6; clear b6 e6)))
      all_goals go_wp2
      all_goals go_meet
      all_goals
       have b7 : Below w4.heap.size w4 w6 := (below_drew (Below.refl _ _)).trans B6.out
       have d7 := W4.out.1.low b7
       have d8 := d7.set 3 (.int .i64 (4 * ((dist Pi).length : Int) + 4)) (ds' := 4 * ((more (dist Pi) x).length : Int)) (iv' := .slice (some ⟨I, 0, none⟩) N c1) (raw' := raw') (by rw [HMO.out, show 4 * (((dist Pi).length + 1 : Nat) : Int) = 4 * ((dist Pi).length : Int) + 4 by omega]; rfl)
       have hI7 := W4.out.2.1.low b7
       have hN7 := W4.out.2.2.1.low b7
       refine ⟨raw', ⟨d8⟩, ⟨?_⟩, ⟨?_⟩, ⟨Below.setCell (p := ⟨E, 3, none⟩) (W4.out.2.2.2.trans (b7.mono W4.out.1.lot)) W4.out.1.le _⟩⟩
       ·obtain ⟨cs, hr, ht, hs⟩ := hI7.r
        exact ⟨⟨cs, blk_far hr (p := ⟨E, 3, none⟩) HG.out.2.2.1 _, ht, hs⟩, hI7.le, hI7.lo⟩
       ·obtain ⟨cs, hr, ht⟩ := hN7
        exact ⟨cs, blk_far hr (p := ⟨E, 3, none⟩) HG.out.2.1 _, ht⟩
    case rest =>
     obtain ⟨raw2, HD2, HI2, HN2, HB2⟩ := hcut
     obtain ⟨e1, e2, e3, e4⟩ := HPi.out
     have h1 := HH.out.2.2.2.1
     obtain ⟨j0, hj0⟩ : ∃ j0, j0 = (nums Pi).length := ⟨_, rfl⟩
     have hjw : IntKind.i64.wrap (((nums P).length : Int) + (i : Int)) = (j0 : Int) := by rw [IntKind.wrap_i64]; omega
     have hjN : (j0 : Int) < (N : Int) := by have := HN.out; omega
     have hj00 : (0 : Int) ≤ (j0 : Int) := by omega
     have hcv : IntKind.i32.wrap (v : Int) = (v : Int) := i32n v (by have := HIX.out; have := HV.out; omega)
     have hc4 : wc.cell? ⟨E, 4, none⟩ = some (.slice (some ⟨I, 0, none⟩) N c1) := (blk_cell HD2.out.e 4).trans rfl
     have hlc : (nums Pi).length + 1 ≤ c1 := by have := HG.out.2.2.2.1; have := HN.out; omega
     obtain ⟨⟨vv, hvv⟩, zz⟩ := HI2.out.some j0 (by omega)
     have hw : IntKind.i64.wrap ((i : Int) + 1) = ((i + 1 : Nat) : Int) := by rw [IntKind.wrap_i64]; omega
     have i6 := HI2.out.push v hlc
     rw [← hj0] at i6
     have d6 : Dc (wc.setCell ⟨I, j0, none⟩ (.int .i32 (v : Int))) lo E T H M2 es2 (more (dist Pi) x).length S (4 * ((more (dist Pi) x).length : Int)) (.slice (some ⟨I, 0, none⟩) N c1) raw2 := by
      obtain ⟨cs, hr, _, _⟩ := HI2.out.r
      exact HD2.out.far hr j0 _
     have in6 : InR (wc.setCell ⟨I, j0, none⟩ (.int .i32 (v : Int))) G xs := by
      obtain ⟨cs, hr, ht⟩ := HN2.out
      exact ⟨cs, blk_far hr (p := ⟨I, j0, none⟩) HG.out.1 _, ht⟩
     have b6 : Below lo w (wc.setCell ⟨I, j0, none⟩ (.int .i32 (v : Int))) := Below.setCell (p := ⟨I, j0, none⟩) HB2.out HI2.out.lo _
     have HRC := Aside0.mk (record_calls d6 (v : Int))
     have W6 := Aside0.mk (And.intro d6 (And.intro i6 (And.intro in6 b6)))
     clear e1 e2 e3 e4 h1 hj0 hlc i6 d6 in6 b6 HD2 HI2 HN2 HB2 W4
     go_wp2_with (first | (go_at_call 33; go_loud (with_reducible refine HRC.out.mono ?_; rintro e w7 ⟨rfl, hw7⟩; subst w7)))
     go_roundg k1
     case measure => have := HI.out; omega
     case rel =>
      refine ⟨i + 1, M2, es2, by simp, ⟨by have := HI.out; omega, by omega⟩, ⟨?_⟩⟩
      rw [HTK.out]
      refine ⟨⟨raw2, by rw [dist_snoc]; exact W6.out.1⟩, ?_, W6.out.2.2.1, by rw [dist_snoc]; exact TB2.out.1, ?_, W6.out.2.2.2⟩
      ·rw [nums_snoc, ← HV.out]; exact W6.out.2.1
      ·have := TB2.out.2.1
       have := TB2.out.2.2
       have := more_len (dist Pi) x
       have := HPi.out.2.1
       simp only [List.length_append, List.length_singleton]
       omega
   ·have d1 : decide ((i : Int) < (xs.length : Int)) = false := decide_eq_false (by omega)
    have d2 : decide (i < xs.length) = false := decide_eq_false ci
    have hi : i = xs.length := by have := HI.out; omega
    have hL := HL.out
    rw [hi, List.take_length] at hL
    obtain ⟨raw3, hd⟩ := hL.dc
    have hnl := nums_len (P ++ xs)
    have hN : N = (nums (P ++ xs)).length := by rw [hnl, HN.out, HH.out.2.2.2.1]; simp
    rw [hN] at hd
    have HSZ := Aside0.mk (size4_calls wr.drew)
    have LE := Aside0.mk (And.intro hL hd)
    have hmul : IntKind.i64.wrap ((xs.length : Int) * 4) = ((xs.length * 4 : Nat) : Int) := by rw [IntKind.wrap_i64]; have := HH.out.2.2.1; omega
    have hmul2 : wrap64 ((xs.length : Int) * 4) = ((xs.length * 4 : Nat) : Int) := by unfold wrap64; have := HH.out.2.2.1; omega
    generalize xs.length * 4 = x4 at hmul hmul2
    clear hL hd hnl hN ci hi HL
    go_upto_region 16 with (fail)
    go_region_with (first | (go_at_call 32; go_loud (refine HSZ.out.mono ?_; rintro e w6 ⟨rfl, b6⟩; have b7 := (below_drew (Below.refl _ _)).trans b6; have HAD := Aside0.mk (addraw_calls (LE.out.2.low b7) (x4 : Int)); have B7 := Aside0.mk b7; clear b6 b7)) | (go_at_call 34; go_loud (refine HAD.out.mono ?_; rintro e w7 ⟨rfl, raw4, d7, b8, k8⟩; have D7 := Aside0.mk (And.intro d7 (And.intro b8 k8)); clear d7 b8 k8)))
    all_goals go_wp2
    all_goals go_end0
    all_goals
     obtain ⟨d7, b8, k8⟩ := D7.out
     have hL := LE.out.1
     obtain ⟨cs, hr, ht, hs⟩ := (hL.ix.low B7.out).r
     refine ⟨rfl, _, _, _, _, ⟨⟨raw4, d7⟩, .inr ⟨I, rfl, ⟨cs, (k8.2 I (blk_lt hr) HG.out.2.2.1).trans hr, ht, hs⟩, hL.ix.le, hL.ix.lo⟩, hL.tb, hL.sz, HG.out.2.2.2.2⟩, (hL.be.trans (B7.out.mono LE.out.2.lot)).trans b8⟩
end Go.Proofs.YtiieljnllgeoeaaGreat.Q
