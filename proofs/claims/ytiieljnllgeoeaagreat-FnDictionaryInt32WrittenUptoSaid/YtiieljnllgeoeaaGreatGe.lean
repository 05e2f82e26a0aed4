/- The writer of runs: a number given to it. -/
import Derived.Test.YtiieljnllgeoeaaGreatGd
import Derived.Test.YtiieljnllgeoeaaGreatQ0
namespace Go.Proofs.YtiieljnllgeoeaaGreat.Q
open Go.RowKit Go.Proofs.YtiieljnllgeoeaaGreatW.PrintWords Go.Proofs.YtiieljnllgeoeaaGreatW.PrintLast Go.Proofs.YtiieljnllgeoeaaGreatW.PrintMore
set_option linter.unusedVariables false
set_option linter.unusedSimpArgs false
theorem i26 : ∃ i, Tryz.prog.info? 26 = some i ∧ i.size = 1 := by
 have h := info26
 cases e : Tryz.prog.info? 26 with
 | none => rw [e] at h; cases h
 | some i =>
  rw [e] at h
  simp only [Option.map_some, Option.some.injEq, Prod.mk.injEq] at h
  exact ⟨i, rfl, h.2.1⟩
theorem append_q (Q n B : Nat) (v : Value) (w : World) {cs : Array Value} (hQ : w.heap[Q]? = some (.cells cs 26 (0, 0))) (hsz : cs.size = 8) (hn : n < 8) (hB : w.cell? ⟨B, 0, none⟩ = some v) (h1 : v.oneCell' = true) :
  (Builtin.append_ #[37, 37] 37 #[.slice (some ⟨Q, 0, none⟩) n 8, .slice (some ⟨B, 0, none⟩) 1 1]).run Tryz.prog w = .ok (.slice (some ⟨Q, 0, none⟩) (n + 1) 8) (w.setCell ⟨Q, n, none⟩ v) := by
 obtain ⟨i, hi, hs⟩ := i26
 have h := run_append_room_cells (P := Tryz.prog) w 37 37 26 i Tryz.underlying37 hi Q 0 n 8 ⟨B, 0, none⟩ 1 1 [v] (by rw [hs]; rfl) (by
  intro j u hu
  match j, hu with
  | 0, hu => simp at hu; subst hu; simpa [Addr.add] using hB
  | j + 1, hu => simp at hu) (by intro u hu; simp at hu; subst hu; exact h1) (by omega) (by
  intro j hj
  have : j = 0 := by simpa using hj
  subst this
  rw [hs, blk_cell hQ]
  simp; omega) (by
  intro j hj
  exact blk_frozen hQ _)
 rw [h, hs]
 simp [World.setCells]
/-- An append whose answer is known. -/
theorem wpl_append {P : Program} {ops : Array Oper} {rest : List Oper} {o : Oper} {a : Act} {Q : Exit → Act → World → Prop} {W W' : World} {V x y : Value} (hgd : o.guard = none) (s z : Operand) (t : TypeId)
  (ho : o.op = .call { callee := .builtin .append, args := #[s, z], argTypes := #[t, t] }) (hs : a.eval s = x) (hz : a.eval z = y) (hr : (Builtin.append_ #[t, t] o.type #[x, y]).run P W = .ok V W')
  (h : wpList P ops Q rest (a.put o.dst V) W') : wpList P ops Q (o :: rest) a W :=
 wpList_plain hgd fun _ hK => by
  unfold Oper.wp execOp
  simp only [ho, resolve, invoke, builtin, Sem.run_bind, Sem.run_pure, Result.andThen_ok, List.map_toArray, List.map_cons, List.map_nil, hs, hz, hr]
  exact hK _ _ h
section
variable {w : World} {lo R W Q wd cur rep lit : Nat} {bf : List Nat} {off : Int}
theorem Ob.alloc (h : Ob w lo R W Q wd bf cur rep lit off) (o : Obj) : Ob (w.alloc o) lo R W Q wd bf cur rep lit off := by
 obtain ⟨⟨g, hr⟩, ⟨junk, hl, hq⟩, l1, l2⟩ := h
 exact ⟨⟨g, blk_alloc hr o⟩, ⟨junk, hl, blk_alloc hq o⟩, l1, l2⟩
theorem Ob.far1 (h : Ob w lo R W Q wd bf cur rep lit off) (n : Nat) (v : Value) : (w.setCell ⟨Q, n, none⟩ v).cell? ⟨R, 1, none⟩ = some (.slice (some ⟨Q, 0, none⟩) bf.length 8) ∧ (w.setCell ⟨Q, n, none⟩ v).frozen? ⟨R, 1, none⟩ = false := by
 obtain ⟨⟨g, hr⟩, ⟨junk, hl, hq⟩, l1, l2⟩ := h
 have hr1 := blk_far hr (p := ⟨Q, n, none⟩) (Ne.symm (blk_ne hq hr (by decide))) v
 exact ⟨(blk_cell hr1 1).trans rfl, blk_frozen hr1 1⟩
/-- One more that waits. -/
theorem Ob.push (h : Ob w lo R W Q wd bf cur rep lit off) (v : Nat) (hb : bf.length < 8) : Ob ((w.setCell ⟨Q, bf.length, none⟩ (.int .u64 (v : Int))).setCell ⟨R, 1, none⟩ (.slice (some ⟨Q, 0, none⟩) (bf.length + 1) 8)) lo R W Q wd (bf ++ [v]) cur rep lit off := by
 obtain ⟨⟨g, hr⟩, ⟨junk, hl, hq⟩, l1, l2⟩ := h
 have hne := blk_ne hq hr (by decide)
 have hr1 := blk_far hr (p := ⟨Q, bf.length, none⟩) (Ne.symm hne) (.int .u64 (v : Int))
 have hq1 := blk_set hq bf.length (.int .u64 (v : Int))
 refine ⟨⟨g, ?_⟩, ⟨junk.tail, ?_, ?_⟩, l1, l2⟩
 ·refine (blk_set hr1 1 _).trans ?_
  simp [reL]
 ·rw [List.length_append] at hl
  simp
  omega
 ·have hq2 := blk_far hq1 (p := ⟨R, 1, none⟩) hne (.slice (some ⟨Q, 0, none⟩) (bf.length + 1) 8)
  refine hq2.trans ?_
  congr 2
  match junk, hl with
  | [], hl => simp at hl; omega
  | x :: junk, hl => 
   apply Array.ext'
   simp [List.set_append]
end
/-- What is wanted ahead of a push. -/
structure Pre (S : Sk) (wd v : Nat) (e : RE) : Prop where
 b : e.bf.length < 8
 x : ∀ x ∈ e.bf ++ [v], x < 2 ^ wd
 l8 : e.L.length % 8 = 0
 l : e.L.length ≤ 496
 r : e.rep < 1048576
 room : e.bf.length = 7 → e.dn.length + 1 + wd * (e.L ++ (e.bf ++ [v])).length / 8 ≤ S.n
theorem pre_a {S : Sk} {wd v : Nat} {e : RE} {V : List Nat} (hk : Ok wd e V) (hv : v < 2 ^ wd) (hn : V.length < 900000) (hS : (1 + wd) * (V.length + 9) ≤ 8 * S.n) (hr : ¬ 8 < e.rep + 1) : Pre S wd v { e with rep := e.rep + 1 } := by
 obtain ⟨V1, hr1, hx, hb, h8, hl, hc⟩ := hk.runs
 rcases hc with ⟨a1, a2, a3, a4, a5⟩ | ⟨a1, a2, a3, a4⟩
 ·refine ⟨a2, fun x hh => ?_, h8, by show e.L.length ≤ 496; omega, by show e.rep + 1 < 1048576; omega, fun h7 => ?_⟩
  ·rcases List.mem_append.1 hh with hh | hh
   ·exact hx x (by rw [a3]; exact List.mem_append_right _ hh)
   ·have : x = v := by simpa using hh
    subst this; exact hv
  ·show e.dn.length + 1 + wd * (e.L ++ (e.bf ++ [v])).length / 8 ≤ S.n
   have h7 : e.bf.length = 7 := h7
   have hV : V.length = V1.length + (e.L.length + 7) := by rw [a3]; simp; omega
   have hm : (1 + wd) * (V.length + 9) = (1 + wd) * V1.length + ((e.L.length + 8) + wd * (e.L.length + 8)) + (1 + wd) * 8 := by
    rw [hV, show V1.length + (e.L.length + 7) + 9 = V1.length + (e.L.length + 8) + 8 by omega, Nat.mul_add, Nat.mul_add (1 + wd) V1.length, Nat.add_mul 1 wd (e.L.length + 8), Nat.one_mul]
   rw [List.length_append, List.length_append, h7, List.length_singleton, show e.L.length + (7 + 1) = e.L.length + 8 by omega]
   omega
 ·omega
theorem pre_b {S : Sk} {wd v : Nat} {e : RE} {V : List Nat} (hk : Ok wd e V) (hv : v < 2 ^ wd) (hn : V.length < 900000) (hS : (1 + wd) * (V.length + 9) ≤ 8 * S.n) (hr : ¬ 8 ≤ e.rep) : Pre S wd v { e with rep := 1, cur := v } := by
 have hp := pre_a hk hv hn hS (by omega)
 exact ⟨hp.b, hp.x, hp.l8, hp.l, by show 1 < 1048576; omega, hp.room⟩
theorem pre_c {S : Sk} {wd v : Nat} {e : RE} {V : List Nat} (hk : Ok wd e V) (hv : v < 2 ^ wd) (hr : 8 ≤ e.rep) : Pre S wd v { e.again wd with rep := 1, cur := v } := by
 obtain ⟨V1, hr1, hx, hb, h8, hl, hc⟩ := hk.runs
 rcases hc with ⟨a1, a2, a3, a4, a5⟩ | ⟨a1, a2, a3, a4⟩
 ·omega
 ·refine ⟨by show (0 : Nat) < 8; omega, fun x hh => ?_, h8, by show e.L.length ≤ 496; omega, by show 1 < 1048576; omega, fun h7 => absurd h7 (by show ¬ (0 : Nat) = 7; omega)⟩
  have : x = v := by simpa [RE.again] using hh
  subst this; exact hv
/-- There is room for a repeated value. -/
theorem again_room {S : Sk} {wd : Nat} {e : RE} {V : List Nat} (hw : 1 ≤ wd) (hk : Ok wd e V) (hn : V.length < 900000) (hS : (1 + wd) * (V.length + 9) ≤ 8 * S.n) (hr : 8 ≤ e.rep) : e.dn.length + (rp wd e.rep e.cur).length ≤ S.n ∧ e.rep < 1000000 ∧ e.cur < 2 ^ wd ∧ e.L = [] ∧ e.bf = [] := by
 obtain ⟨V1, hr1, hx, hb, h8, hl, hc⟩ := hk.runs
 rcases hc with ⟨a1, a2, a3, a4, a5⟩ | ⟨a1, a2, a3, a4⟩
 ·omega
 ·have hV : V.length = V1.length + e.rep := by rw [a4]; simp
  have := rp_len wd e.rep e.cur hw hr (by omega)
  have hm : (1 + wd) * (V.length + 9) = (1 + wd) * V1.length + (1 + wd) * e.rep + (1 + wd) * 9 := by rw [hV, Nat.mul_add, Nat.mul_add]
  exact ⟨by omega, by omega, hx _ (by rw [a4]; exact List.mem_append_right _ (List.mem_replicate.2 ⟨by omega, rfl⟩)), a3, a2⟩
theorem Str.lolt {w : World} {lo W wd : Nat} {S : Sk} {dn : List Int} {L : List Nat} {o : Int} (s : Str w lo W S wd dn L o) : lo ≤ w.heap.size := by
 rcases s with ⟨a1, a2, pre, N, bits, a3, a4⟩ | ⟨a1, a2, a3⟩
 ·exact a3.lolt
 ·exact a3.lolt
set_option maxHeartbeats 4000000 in
set_option maxRecDepth 100000 in
theorem put_calls {w : World} {lo R W Q wd v : Nat} {S : Sk} {e : RE} {V : List Nat} (h : Rl w lo R W Q wd S e) (hk : Ok wd e V) (hwd : 1 ≤ wd ∧ wd ≤ 32) (hv : v < 2 ^ wd) (hn : V.length < 900000) (hS : (1 + wd) * (V.length + 9) ≤ 8 * S.n) :
  Calls Tryz.prog 62 #[.pointer (some ⟨R, 0, none⟩), .int .u64 (v : Int)] w fun x w' => x = .returned .nilIface ∧ Rl w' lo R W Q wd S (e.put wd v) ∧ FrE lo w w' := by
 obtain ⟨off, h, hs, hS2⟩ := h
 have r3 := h.c3
 have r4 := h.c4
 have HP := Aside0.mk (fun q => pre_a (v := v) hk hv hn hS q)
 have HPB := Aside0.mk (fun q => pre_b (v := v) hk hv hn hS q)
 have HPC := Aside0.mk (fun q => pre_c (S := S) (v := v) hk hv q)
 have HRM := Aside0.mk (fun q => again_room hwd.1 hk hn hS q)
 have HW := Aside0.mk hwd
 have hrb : e.rep < 900001 := by
  obtain ⟨V1, _, _, _, _, _, hc⟩ := hk.runs
  rcases hc with ⟨a1, _⟩ | ⟨_, _, _, a4⟩
  ·omega
  ·have : V.length = V1.length + e.rep := by rw [a4]; simp
   omega
 have HRB := Aside0.mk hrb
 have H := Aside0.mk (And.intro h (And.intro hs hS2))
 clear h hs hS2 hk hwd hv hn hS hrb
 go_enter Tryz.func62, Tryz.ntmps62
 go_upto_if 10 with (fail)
 go_cut [4] (fun v4 wc => v4 = .nilIface ∧ ∃ e1, Aside0 (Rl wc lo R W Q wd S e1) ∧ Aside0 (e.put wd v = e1.push wd v) ∧ Aside0 (Pre S wd v e1) ∧ Aside0 (FrE lo w wc))
 case first =>
  have z4 := H.out.1.f 4
  by_cases c : e.cur = v
  ·have hd : ((e.cur : Int) == (v : Int)) = true := beq_iff_eq.mpr (by omega)
   have hd2 : decide ((e.cur : Int) = (v : Int)) = true := decide_eq_true (by omega)
   have hi := i32b e.rep (by have := HRB.out; omega)
   have hi2 := w32b e.rep (by have := HRB.out; omega)
   have o1 := H.out.1.s4 (e.rep + 1)
   have s1 := H.out.1.strR H.out.2.1 4 (.int .i32 ((e.rep + 1 : Nat) : Int))
   have f1 := H.out.1.setR 4 (.int .i32 ((e.rep + 1 : Nat) : Int))
   have x4 := o1.c4
   have O1 := Aside0.mk (And.intro o1 (And.intro s1 f1))
   clear o1 s1 f1
   by_cases q : 8 < e.rep + 1
   ·have hd3 : decide (((e.rep + 1 : Nat) : Int) > 8) = true := decide_eq_true (by omega)
    have hput : e.put wd v = { e with rep := e.rep + 1 } := by unfold RE.put; rw [if_pos c, if_pos q]
    have HPT := Aside0.mk hput
    clear hput c q
    obtain ⟨r1, hr1⟩ : ∃ r1, r1 = e.rep + 1 := ⟨_, rfl⟩
    rw [← hr1] at hi hi2 x4 O1 hd3 HPT
    clear hr1 HP HPB HPC HRM HRB
    go_wp2
    go_ret
    rw [HPT.out]
    exact ⟨rfl, ⟨off, O1.out.1, O1.out.2.1, H.out.2.2⟩, O1.out.2.2⟩
   ·have hd3 : decide (((e.rep + 1 : Nat) : Int) > 8) = false := decide_eq_false (by omega)
    have hput : e.put wd v = ({ e with rep := e.rep + 1 } : RE).push wd v := by unfold RE.put; rw [if_pos c, if_neg q]
    have HPT := Aside0.mk hput
    have HPR := Aside0.mk (HP.out q)
    clear hput c q
    obtain ⟨r1, hr1⟩ : ∃ r1, r1 = e.rep + 1 := ⟨_, rfl⟩
    rw [← hr1] at hi hi2 x4 O1 hd3 HPT HPR
    clear hr1 HP HPB HPC HRM HRB
    go_wp2
    go_meet
    case rel => exact ⟨rfl, { e with rep := r1 }, ⟨off, O1.out.1, O1.out.2.1, H.out.2.2⟩, HPT, HPR, ⟨O1.out.2.2⟩⟩
  ·have hd : ((e.cur : Int) == (v : Int)) = false := beq_eq_false_iff_ne.mpr (by omega)
   have hd2 : decide ((e.cur : Int) = (v : Int)) = false := decide_eq_false (by omega)
   by_cases q : 8 ≤ e.rep
   ·have hd3 : decide ((e.rep : Int) ≥ 8) = true := decide_eq_true (by omega)
    obtain ⟨g1, g2, g3, g4, g5⟩ := HRM.out q
    have hcu : e.cur < 18446744073709551616 := by
     have : (2 : Nat) ^ wd ≤ 2 ^ 64 := Nat.pow_le_pow_right (by omega) (by have := HW.out; omega)
     omega
    have hput : e.put wd v = ({ e.again wd with rep := 1, cur := v } : RE).push wd v := by unfold RE.put; rw [if_neg c, if_pos q]
    have HPT := Aside0.mk hput
    have HPR := Aside0.mk (HPC.out q)
    have hs0 : Sm w lo W S e.dn := by
     rcases H.out.2.1 with ⟨_, _, a⟩ | ⟨a, _⟩
     ·exact a
     ·exact absurd g4 a
    have ho : off = -1 := by
     rcases H.out.2.1 with ⟨_, a, _⟩ | ⟨a, _⟩
     ·exact a
     ·exact absurd g4 a
    have HC := Aside0.mk (rep_calls H.out.1 hs0 HW.out hcu (by omega) g1 H.out.2.2)
    have HG := Aside0.mk (And.intro g4 ho)
    clear hput c q g1 g2 g3 g4 g5 hcu hs0 ho HP HPB HPC HRM HRB
    go_wp2_with (first | (go_at_call 78; go_loud (with_reducible refine HC.out.mono ?_; rintro x w1 ⟨rfl, o1, s1, f1⟩; have y4 := o1.c4; have v4 := o1.f 4; have o2 := o1.o4; have y3 := o2.c3; have v3 := o2.f 3; have O1 := Aside0.mk (And.intro o1 (And.intro s1 f1)); have O2 := Aside0.mk o2; clear o1 s1 f1 o2)))
    go_meet
    case rel =>
     obtain ⟨pre, N, bits, t1, t2⟩ := O1.out.2.1
     have t3 := O2.out.stR (O1.out.1.stR t1 4 (.int .i32 1)) 3 (.int .u64 (v : Int))
     exact ⟨rfl, { e.again wd with rep := 1, cur := v }, ⟨off, O2.out.s3 v, .inl ⟨HG.out.1, HG.out.2, pre, N, bits, t3, t2⟩, H.out.2.2⟩, HPT, HPR, ⟨(O1.out.2.2.trans (O1.out.1.setR 4 _)).trans (O2.out.setR 3 _)⟩⟩
   ·have hd3 : decide ((e.rep : Int) ≥ 8) = false := decide_eq_false (by omega)
    have hput : e.put wd v = ({ e with rep := 1, cur := v } : RE).push wd v := by unfold RE.put; rw [if_neg c, if_neg q]
    have HPT := Aside0.mk hput
    have HPR := Aside0.mk (HPB.out q)
    have o2 := H.out.1.o4
    have y3 := o2.c3
    have v3 := o2.f 3
    have O2 := Aside0.mk o2
    clear hput c q HP HPB HPC HRM HRB o2
    go_wp2
    go_meet
    case rel => exact ⟨rfl, { e with rep := 1, cur := v }, ⟨off, O2.out.s3 v, O2.out.strR (H.out.1.strR H.out.2.1 4 _) 3 _, H.out.2.2⟩, HPT, HPR, ⟨(H.out.1.setR 4 _).trans (O2.out.setR 3 _)⟩⟩
 case rest =>
  obtain ⟨rfl, e1, ⟨off1, o1, s1, hS1⟩, HE, HPR, HF⟩ := hcut
  clear H HP HPB HPC HRM HRB r3 r4
  have y1 := o1.c1
  have v1 := o1.f 1
  have hb := HPR.out.b
  obtain ⟨junk, hl, hq⟩ := o1.q
  have hap := append_q Q e1.bf.length wc.heap.size (.int .u64 (v : Int)) (wc.alloc (.cells #[.int .u64 (v : Int)] 26)) (blk_alloc hq _) (by simpa using hl) hb ((blk_cell (blk_new wc _) 0).trans rfl) rfl
  have o2 := (o1.alloc (.cells #[.int .u64 (v : Int)] 26)).push v hb
  have s2 := (o1.alloc (.cells #[.int .u64 (v : Int)] 26)).strQ (s1.alloc (.cells #[.int .u64 (v : Int)] 26)) e1.bf.length (.int .u64 (v : Int))
  obtain ⟨y2, v2⟩ := (o1.alloc (.cells #[.int .u64 (v : Int)] 26)).far1 e1.bf.length (.int .u64 (v : Int))
  have f2 := (FrE.alloc s1.lolt (.cells #[.int .u64 (v : Int)] 26)).trans (((o1.alloc (.cells #[.int .u64 (v : Int)] 26)).setQ e1.bf.length (.int .u64 (v : Int))))
  have hr2 : ∃ g, ((wc.alloc (.cells #[.int .u64 (v : Int)] 26)).setCell ⟨Q, e1.bf.length, none⟩ (.int .u64 (v : Int))).heap[R]? = some (.cells (reL W Q e1.bf.length wd e1.cur e1.rep e1.L.length off1 g) 181 (0, 0)) := by
   obtain ⟨g, hr⟩ := o1.r
   exact ⟨g, blk_far (blk_alloc hr _) (p := ⟨Q, e1.bf.length, none⟩) (Ne.symm (blk_ne hq hr (by decide))) _⟩
  have HAP := Aside0.mk hap
  clear hap hq
  go_upto_region 11 with (first | ((with_reducible refine gate_builtin (b := .append) (xs := #[.tmp 43, .tmp 45]) rfl ?_); refine wpl_append rfl _ _ 37 rfl rfl rfl HAP.out ?_))
  clear HAP y1 v1
  generalize (wc.alloc (.cells #[.int .u64 (v : Int)] 26)).setCell ⟨Q, e1.bf.length, none⟩ (.int .u64 (v : Int)) = w1 at o2 s2 f2 y2 v2 hr2 ⊢
  obtain ⟨g, hr2⟩ := hr2
  have s3 : Str (w1.setCell ⟨R, 1, none⟩ (.slice (some ⟨Q, 0, none⟩) (e1.bf.length + 1) 8)) lo W S wd e1.dn e1.L off1 := by
   rcases s2 with ⟨a1, a2, pre, N, bits, a3, a4⟩ | ⟨a1, a2, a3⟩
   ·exact .inl ⟨a1, a2, pre, N, bits, a3.setE hr2 (by decide) (by decide) (by decide) 1 _, a4⟩
   ·exact .inr ⟨a1, a2, a3.setE hr2 (by decide) (by decide) (by decide) 1 _⟩
  have f3 : FrE lo wc (w1.setCell ⟨R, 1, none⟩ (.slice (some ⟨Q, 0, none⟩) (e1.bf.length + 1) 8)) := f2.trans ⟨Below.setCell (p := ⟨R, 1, none⟩) (Below.refl _ _) o1.lr _, fun g t cs e _ _ a _ => blk_far e (p := ⟨R, 1, none⟩) (blk_ne e hr2 a) _⟩
  clear y2 v2 s2 f2 hr2 hl
  generalize w1.setCell ⟨R, 1, none⟩ (.slice (some ⟨Q, 0, none⟩) (e1.bf.length + 1) 8) = w2 at o2 s3 f3 ⊢
  have y1 := o2.c1
  have hlen : (e1.bf ++ [v]).length = e1.bf.length + 1 := by simp
  have HS3 := Aside0.mk s3
  have F3 := Aside0.mk (HF.out.trans f3)
  have O2 := Aside0.mk o2
  clear s3 f3 o1 s1 o2
  by_cases c : e1.bf.length = 7
  ·have hpush : e1.push wd v = ({ e1 with bf := e1.bf ++ [v] } : RE).full wd := by unfold RE.push; rw [if_pos (by rw [hlen, c])]
   rw [hlen, c] at y1
   have hfc := full_calls (e := { e1 with bf := e1.bf ++ [v] }) ⟨off1, O2.out, HS3.out, hS1⟩ HPR.out.x HW.out.2 HPR.out.l8 HPR.out.l (by rw [hlen, c]) HPR.out.r (HPR.out.room c)
   rw [← hpush, ← HE.out] at hfc
   have HC := Aside0.mk hfc
   clear hpush hfc hlen c hb
   go_wp2_with (first | (go_at_call 80; go_loud (with_reducible refine HC.out.mono ?_; rintro x w3 ⟨rfl, o3, f4⟩; have O3 := Aside0.mk (And.intro o3 f4); clear o3 f4)))
   go_ret
   exact ⟨rfl, O3.out.1, F3.out.trans O3.out.2⟩
  ·have hpush : e1.push wd v = { e1 with bf := e1.bf ++ [v] } := by unfold RE.push; rw [if_neg (by rw [hlen]; omega)]
   have hd1 : (((e1.bf.length + 1 : Nat) : Int) == 8) = false := beq_eq_false_iff_ne.mpr (by omega)
   have hd2 : decide (((e1.bf.length + 1 : Nat) : Int) = 8) = false := decide_eq_false (by omega)
   rw [hlen] at y1
   have HPP := Aside0.mk (HE.out.trans hpush)
   generalize e1.bf.length + 1 = n1 at y1 hd1 hd2
   clear hpush hlen c hb
   go_wp2
   go_ret
   rw [HPP.out]
   exact ⟨rfl, ⟨off1, O2.out, HS3.out, hS1⟩, F3.out⟩
end Go.Proofs.YtiieljnllgeoeaaGreat.Q
