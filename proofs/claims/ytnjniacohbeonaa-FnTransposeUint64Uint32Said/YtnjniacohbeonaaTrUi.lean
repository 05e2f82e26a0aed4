/- The walk of impl.TransposeUint64Uint32: what a map has at the numbers of a list; a number that is no place of the map ends the loop by an index panic, from which the deferred noNumbers[uint32] recovers. -/
import Derived.Test.YtnjniacohbeonaaQTrUa
import Derived.Recover
import Derived.Laws.Panics
namespace Go.Proofs.Ytnjniacohbeonaa.Q
open Go.RowKit Go.Proofs.YtnjniacohbeonaaW.PrintWords Go.Proofs.YtnjniacohbeonaaW.PrintLast Go.Proofs.YtnjniacohbeonaaW.PrintMore
set_option linter.unusedVariables false
set_option linter.unusedSimpArgs false

/-- An index out of a slice's range: the run-time panic; no memory turns. -/
theorem run_index_out {P : Program} (w : World) (t : TypeId) (A : Option Addr) (n c : Nat) (k : IntKind) (j : Int) (ht : P.underlying t = some (.slice (P.elem t))) (hnil : A = none → n = 0) (hj : j < 0 ∨ (n : Int) ≤ j) :
    ∃ pv m, (Instr.indexAt t (.slice A n c) (.int k j)).run P w = .halt (.panic (.iface P.rt.boundsError pv)) (w.drewN m) := by
  have hb : ∀ y : Int, ∃ pv m, (boundsPanic k j y .index : Sem Value).run P w = .halt (.panic (.iface P.rt.boundsError pv)) (w.drewN m) := by
    intro y
    unfold boundsPanic
    split
    · exact ⟨_, 1, by simp [runtimePanic, goPanic, go_sem]; exact ⟨rfl, rfl⟩⟩
    · exact ⟨_, 0, by simp [runtimePanic, goPanic, go_sem]; exact ⟨rfl, rfl⟩⟩
  cases A with
  | some a =>
    rw [run_indexAt_slice (h := ht), if_neg (by omega)]
    exact hb n
  | none =>
    obtain rfl := hnil rfl
    have e : (Instr.indexAt t (.slice none 0 c) (.int k j)).run P w = (boundsPanic k j 0 .index).run P w := by
      simp [Instr.indexAt, run_underlying ht, asIntOf]
    rw [e]
    exact hb 0

theorem wpList_index_out {P : Program} {ops : Array Oper} {rest : List Oper} {o : Oper} {a : Act} {Q : Exit → Act → World → Prop} {w : World} (hg : o.guard = none) (t : TypeId) (x i : Operand) (ho : o.op = .indexAddr t x i)
    (A : Option Addr) (n c : Nat) (k : IntKind) (j : Int) (hx : a.eval x = .slice A n c) (hi : a.eval i = .int k j) (ht : P.underlying t = some (.slice (P.elem t))) (hnil : A = none → n = 0) (hj : j < 0 ∨ (n : Int) ≤ j)
    (h : ∀ pv m, Q (.panic [{ v := .iface P.rt.boundsError pv, recovered := false }]) a (w.drewN m)) : wpList P ops Q (o :: rest) a w := by
  refine wpList_plain hg fun K hK => ?_
  obtain ⟨pv, m, hrun⟩ := run_index_out (P := P) w t A n c k j ht hnil hj
  unfold Oper.wp
  simp [execOp, ho, hx, hi, hrun, Result.andThen, Oper.upon]
  exact h pv m

/-- It ends in a panic that has not been recovered from. -/
def Died (e : Ending) : Prop := ∃ t pv, e = .panicked [{ v := .iface t pv, recovered := false }]
/-- Place j of the list names no place of the map. -/
def Bad (l0 l2 : List Int) (j : Int) : Prop := rd l0 j < 0 ∨ (l2.length : Int) ≤ rd l0 j

set_option maxHeartbeats 8000000 in
set_option maxRecDepth 100000 in
theorem utils_transposeUint64Uint32.dies (A0 : Option Addr) (c0 : Nat) (l0 : List Int) (P1_ : Nat → Prop) (u9000_ : Value) (l1 : List Int) (A2 : Option Addr) (c2 : Nat) (l2 : List Int) (w0 w : World) (hB : Below w0.heap.size w0 w) (hr0 : ∀ W_, Kept w W_ (fun k_ => P1_ k_) → Kd.C (Kd.int .u64) W_ A0 l0.length l0) (hc0 : l0.length ≤ c0) (ho1 : Kd.R (Kd.int .u32) 44 w w0.heap.size P1_ u9000_ l1) (hr2 : ∀ W_, Kept w W_ (fun k_ => P1_ k_) → Kd.C (Kd.int .i32) W_ A2 l2.length l2) (hc2 : l2.length ≤ c2) (hl : l1.length = l0.length) (hn : l0.length ≤ 1000) (hbad : ∃ j : Int, 0 ≤ j ∧ j < l0.length ∧ Bad l0 l2 j) :
    Calls Try.prog 66 #[.slice A0 l0.length c0, u9000_, .slice A2 l2.length c2] w fun e w' => Died e ∧ Below w0.heap.size w0 w' ∧ Kept w w' (fun k_ => P1_ k_) := by
  have HR0 := Aside0.mk hr0
  have HC0 := Aside0.mk hc0
  clear hr0 hc0
  have HO1 := Aside0.mk (show Kd.R (Kd.int .u32) 44 w w0.heap.size (fun k_ => (P1_ k_ ∨ w.heap.size ≤ k_)) u9000_ l1 from Kd.R_mono ho1 (fun k_ hk => (.inl hk)))
  have HR2 := Aside0.mk hr2
  have HC2 := Aside0.mk hc2
  clear hr2 hc2 ho1
  have HK := Aside0.mk (Kept.refl w (fun k_ => P1_ k_))
  have HB := Aside0.mk hB
  clear hB
  have HL := Aside0.mk hl
  have HN := Aside0.mk hn
  have HBAD := Aside0.mk hbad
  clear hl hn hbad
  go_enter Try.func66, Try.ntmps66
  go_wp2
  go_loopg [10] l0.length (fun kq v10 w' => ∃ (x1_1 : List Int) (x10_1 : Int), v10 = .int .i64 x10_1 ∧ Aside0 (0 ≤ x10_1 ∧ x10_1 + kq = l0.length) ∧ Aside0 (x1_1.length = l0.length) ∧ Aside0 (∃ j : Int, x10_1 ≤ j ∧ j < l0.length ∧ Bad l0 l2 j) ∧ Aside0 (Kd.R (Kd.int .u32) 44 w' w0.heap.size (fun k_ => (P1_ k_ ∨ w.heap.size ≤ k_)) u9000_ x1_1) ∧ Aside0 (Kept w w' (fun k_ => P1_ k_)) ∧ Aside0 (Below w0.heap.size w0 w'))
  case atStart => exact ⟨l1, 0, rfl, ⟨⟨by omega, by simp⟩⟩, ⟨HL.out⟩, ⟨HBAD.out⟩, ⟨HO1.out⟩, ⟨HK.out⟩, ⟨HB.out⟩⟩
  case round =>
    try clear c2
    try clear p2
    obtain ⟨x1_1, x10_1, rfl, HI, HX, HJ, HO_1, HK, HB⟩ := hrel
    have c4b0 : decide (x10_1 < (l0.length : Int)) = true := decide_eq_true (by obtain ⟨j, h1, h2, _⟩ := HJ.out; omega)
    have c5b0 : decide (0 ≤ x10_1) = true := decide_eq_true HI.out.1
    have c6b0 := c4b0
    have p101 : 0 ≤ (x10_1 : Int) := of_decide_eq_true c5b0
    have q101 : x10_1 < (l0.length : Int) := of_decide_eq_true c4b0
    obtain ⟨k1, rfl⟩ : ∃ k1, gk = k1 + 1 := ⟨gk - 1, by have := HI.out; omega⟩
    obtain ⟨ad101, e101, hx101_0⟩ := Kd.at_int (Kd.C_kept_now HR0.out HK.out) x10_1 p101 q101
    cases e101
    replace p101 := eq_true p101
    replace q101 := eq_true q101
    by_cases hgood : 0 ≤ rd l0 x10_1 ∧ rd l0 x10_1 < l2.length
    · have c7b0 : decide (0 ≤ (rd l0 x10_1)) = true := decide_eq_true hgood.1
      have c8b0 : decide ((rd l0 x10_1) < (l2.length : Int)) = true := decide_eq_true hgood.2
      have c9b0 : decide (x10_1 < (x1_1.length : Int)) = true := decide_eq_true (by rw [HX.out]; exact of_decide_eq_true c4b0)
      have HJ2 : Aside0 (∃ j : Int, x10_1 + 1 ≤ j ∧ j < l0.length ∧ Bad l0 l2 j) := by
        obtain ⟨j, h1, h2, h3⟩ := HJ.out
        refine ⟨⟨j, ?_, h2, h3⟩⟩
        by_cases hj : j = x10_1
        · subst hj; unfold Bad at h3; omega
        · omega
      clear hgood HJ
      have p102 : 0 ≤ ((rd l0 x10_1) : Int) := of_decide_eq_true c7b0
      have q102 : (rd l0 x10_1) < (l2.length : Int) := of_decide_eq_true c8b0
      obtain ⟨ad102, e102, hx102_0⟩ := Kd.at_int (Kd.C_kept_now HR2.out HK.out) (rd l0 x10_1) p102 q102
      cases e102
      replace p102 := eq_true p102
      replace q102 := eq_true q102
      have p10 : 0 ≤ (x10_1 : Int) := of_decide_eq_true c5b0
      have q10 : (x10_1 : Int) < ((x1_1.length : Int) : Int) := of_decide_eq_true c9b0
      obtain ⟨go10, co10, eo10, gb10, gl10, cl10, HG10⟩ := Kd.R_form HO_1.out (by omega)
      (first | cases eo10 | (injection eo10 with ea_ en_ ec_; (first | subst ea_ | (injection ea_ with ea_; subst ea_)); subst ec_; clear en_))
      have GB10 := Aside0.mk gb10
      have GG10 := Aside0.mk HG10
      clear gb10 gl10 HG10
      have HMgo10 := Aside0.mk (show (P1_ go10 ∨ w.heap.size ≤ go10) from (HO_1.out.1 _ rfl))
      obtain ⟨hx10_0, hf10_0⟩ := Kd.R_celln 0 HO_1.out (x10_1 : Int) p10 q10
      replace p10 := eq_true p10
      replace q10 := eq_true q10
      have HP11 := Kd.R_putg HO_1.out (x10_1 : Int) ((rd l2 (rd l0 x10_1)) % 4294967296)
      obtain ⟨y103, hy103⟩ : ∃ y_ : List Int, y_ = (x1_1.set (x10_1 : Int).toNat ((rd l2 (rd l0 x10_1)) % 4294967296)) := ⟨_, rfl⟩
      have Ny103 := Aside0.mk hy103
      clear hy103
      have hw1_ : wrap64 (x10_1 + 1) = x10_1 + 1 := by have := HI.out; have := HN.out; unfold wrap64; omega
      have HW1 := Aside0.mk hw1_
      clear hw1_
      go_wp2_with (first | ((with_reducible refine gate_store (t := 44) (p := 22) rfl ?_); refine store_event (t := 44) (p := 22) (v := ?vo_w12) (w1 := (wr.setCell ⟨go10, (x10_1 : Int).toNat, none⟩ (.int .u32 ((rd l2 (rd l0 x10_1)) % 4294967296)))) ?hg ?ho ?hn ?hr ?_; (case ho => rfl); (case hg => rfl); (case hn => rfl); (case hr => first | (go_simp; done) | (go_simp; rfl)); intro w12 hw; have hg : wr.grownBy w12 (some go10) := (by rw [hw]; exact HP11.2); have hp_ : Kd.R (Kd.int .u32) 44 w12 w0.heap.size (fun k_ => (P1_ k_ ∨ w.heap.size ≤ k_)) (.slice (some ⟨go10, 0, none⟩) x1_1.length co10) y103 := (by rw [hw, Ny103.out]; exact HP11.1); clear HP11; have n0_ := Aside0.mk (hp_); have n1_ := Aside0.mk ((by rw [hw]; exact below_set (HB.out) GB10.out : Below w0.heap.size w0 w12)); have n2_ := Aside0.mk (Kept.of_grown (S := (fun k_ => P1_ k_)) hg (by repeat (first | (with_reducible first | exact HK.out | apply Kept.alloc | apply Kept.drewN | apply Kept.drew) | exact HK.out)) (fun k_ e_ => (HO_1.out.1 k_ e_))); clear HO_1; clear HB; clear HK; have HO_1 := n0_; have HB := n1_; have HK := n2_; clear n0_ n1_ n2_; clear hg hw hp_))
      go_roundg k1
      case measure => omega
      case rel => exact ⟨y103, (x10_1 + 1), (by rw [HW1.out]), ⟨⟨by have := HI.out; omega, by have := HI.out; omega⟩⟩, ⟨by rw [Ny103.out, List.length_set]; exact HX.out⟩, HJ2, ⟨HO_1.out⟩, ⟨HK.out⟩, ⟨HB.out⟩⟩
    · have hout : rd l0 x10_1 < 0 ∨ (l2.length : Int) ≤ rd l0 x10_1 := by omega
      have hnil : A2 = none → l2.length = 0 := by
        intro hA
        rcases Nat.eq_zero_or_pos l2.length with h | h
        · exact h
        · obtain ⟨ad, e, _⟩ := Kd.at_int (Kd.C_kept_now HR2.out HK.out) 0 (by omega) (by omega)
          rw [hA] at e; cases e
      have HOUT := Aside0.mk hout
      have HNIL := Aside0.mk hnil
      clear hgood HJ hout hnil
      go_wp2_with ((with_reducible refine gate_ (.indexAddr 38 (.tmp 17) (.tmp 18)) rfl ?_); refine wpList_index_out rfl 38 (.tmp 17) (.tmp 18) rfl A2 l2.length c2 .u64 (rd l0 x10_1) rfl rfl Try.underlying38 HNIL.out HOUT.out ?_; intro pv_ m_)
      exact ⟨rfl, ⟨_, _, rfl⟩, pw_below_drewN HB.out _, Kept.drewN HK.out _⟩

set_option maxHeartbeats 4000000 in
theorem utils_TransposeUint64Uint32.dies (A0 : Option Addr) (c0 : Nat) (l0 : List Int) (P1_ : Nat → Prop) (u9000_ : Value) (l1 : List Int) (A2 : Option Addr) (c2 : Nat) (l2 : List Int) (w0 w : World) (hB : Below w0.heap.size w0 w) (hr0 : ∀ W_, Kept w W_ (fun k_ => P1_ k_) → Kd.C (Kd.int .u64) W_ A0 l0.length l0) (hc0 : l0.length ≤ c0) (ho1 : Kd.R (Kd.int .u32) 44 w w0.heap.size P1_ u9000_ l1) (hr2 : ∀ W_, Kept w W_ (fun k_ => P1_ k_) → Kd.C (Kd.int .i32) W_ A2 l2.length l2) (hc2 : l2.length ≤ c2) (hl : l1.length = l0.length) (hn : l0.length ≤ 1000) (hbad : ∃ j : Int, 0 ≤ j ∧ j < l0.length ∧ Bad l0 l2 j) :
    Calls Try.prog 49 #[.slice A0 l0.length c0, u9000_, .slice A2 l2.length c2] w fun e w' => Died e ∧ Below w0.heap.size w0 w' ∧ Kept w w' (fun k_ => P1_ k_) := by
  have HC := Aside0.mk (utils_transposeUint64Uint32.dies A0 c0 l0 P1_ u9000_ l1 A2 c2 l2 w0 w hB hr0 hc0 ho1 hr2 hc2 hl hn hbad)
  clear hB hr0 hc0 ho1 hr2 hc2 hl hn hbad
  go_enter Try.func49, Try.ntmps49
  go_wp2_with (go_at_call 66; refine HC.out.mono ?_; rintro e w' ⟨⟨t_, pv_, rfl⟩, hb_, hk_⟩)
  exact ⟨rfl, ⟨_, _, rfl⟩, hb_, hk_⟩

theorem noNumbers_uint32_idle (pl pok : Addr) (w : World) :
    CallsD Try.prog 48 #[.pointer (some pl), .pointer (some pok)] .returning w fun e u' w' => e = .returned (.tuple #[]) ∧ u' = .returning ∧ w' = w := by
  refine callsD_of_wpS Try.func48 rfl fun c₀ cs hu => ?_
  apply wpS_seq
  apply wpS_region
  simp [wpOpsS, go_sem, recoverD, hu, Try.ntmps48, Exit.thenS]
  refine wpS_cond (t := false) (by simp [Act.eval, Array.replicate]) ?_
  simp only [Bool.false_eq_true, if_false]
  refine wpS_of_wp (wp_skip ?_)
  cases c₀
  simp_all [bodyPostS, results, Try.results48]

theorem noNumbers_uint32_panicking (pl pok : Addr) (x y : Value) (u : TypeId) (pv : Value) (older : List PanicEntry) (w : World) (hl : w.cell? pl = some x) (zl : w.frozen? pl = false)
    (hok : (w.setCell pl (.slice none 0 0)).cell? pok = some y) (zok : (w.setCell pl (.slice none 0 0)).frozen? pok = false) :
    CallsD Try.prog 48 #[.pointer (some pl), .pointer (some pok)] (.panicking ({ v := .iface u pv, recovered := false } :: older)) w fun e u' w' =>
      e = .returned (.tuple #[]) ∧ u' = .panicking ({ v := .iface u pv, recovered := true } :: older) ∧ w' = (w.setCell pl (.slice none 0 0)).setCell pok (.bool false) := by
  refine callsD_of_wpS Try.func48 rfl fun c₀ cs hu => ?_
  apply wpS_seq
  apply wpS_region
  simp [wpOpsS, go_sem, recoverD, hu, Try.ntmps48, Exit.thenS]
  refine wpS_cond (t := true) (by simp [Act.eval, Array.replicate]) ?_
  simp only [if_true]
  apply wpS_region
  simp [wpOpsS, go_sem, hl, zl, hok, zok, bodyPostS, results, Try.results48]

/-- What the loop makes of the places from i on. -/
theorem utils_transposeUint64Uint32_run (l0 l2 : List Int) (hn : l0.length ≤ 1000) (hall : ∀ x ∈ l0, 0 ≤ x ∧ x < l2.length) (d : Nat) : ∀ (k i : Nat) (x1 : List Int), i + d = l0.length → x1.length = l0.length → d < k →
    utils_transposeUint64Uint32.l0 k x1 l2 l0 (l0.length : Int) (i : Int) = some (x1.take i ++ (l0.drop i).map fun s => ((rd l2 s) % 4294967296)) := by
  induction d with
  | zero =>
    intro k i x1 hi hx hk
    obtain ⟨k, rfl⟩ : ∃ m, k = m + 1 := ⟨k - 1, by omega⟩
    simp only [utils_transposeUint64Uint32.l0]
    rw [if_neg (by omega), List.take_of_length_le (by omega), List.drop_eq_nil_of_le (by omega)]; simp
  | succ d ih =>
    intro k i x1 hi hx hk
    obtain ⟨k, rfl⟩ : ∃ m, k = m + 1 := ⟨k - 1, by omega⟩
    have hlt : i < l0.length := by omega
    have hr : rd l0 (i : Int) = l0[i] := by
      show l0.getD i 0 = _
      rw [List.getD_eq_getElem?_getD, List.getElem?_eq_getElem hlt]; rfl
    have hm := hall _ (List.getElem_mem hlt)
    have hw : wrap64 ((i : Int) + 1) = ((i + 1 : Nat) : Int) := by unfold wrap64; omega
    simp only [utils_transposeUint64Uint32.l0]
    rw [hr, hw, if_pos (by omega), if_pos (by omega), if_pos (by omega), if_pos (by omega), if_pos (by omega), if_pos (by omega)]
    rw [ih k (i + 1) _ (by omega) (by rw [List.length_set]; exact hx) (by omega)]
    rw [List.drop_eq_getElem_cons hlt, List.map_cons]
    congr 1
    show List.take (i + 1) (x1.set i _) ++ _ = _
    rw [List.take_succ_eq_append_getElem (by rw [List.length_set]; omega), List.take_set_of_le (Nat.le_refl i), List.getElem_set_self]
    simp

theorem three_blocks (w : World) (A B C : Obj) : (((w.alloc A).alloc B).alloc C).heap[w.heap.size]? = some A ∧ (((w.alloc A).alloc B).alloc C).heap[w.heap.size + 1]? = some B ∧ Below w.heap.size w (((w.alloc A).alloc B).alloc C) ∧ (((w.alloc A).alloc B).alloc C).heap.size = w.heap.size + 3 := by
  refine ⟨?_, ?_, below_alloc (below_alloc (below_alloc (Below.refl _ _) _) _) _, by simp⟩
  · exact blk_alloc (blk_alloc (blk_new w A) B) C
  · have h := blk_alloc (blk_new (w.alloc A) B) C
    simpa using h

/-- What the call answers: of at most 1,000 numbers. -/
def impl_TransposeUint64Uint32.f (l0 l1 : List Int) : Option (List Int × Bool) :=
  if l0.length ≤ 1000 then (if l0.all (fun x => decide (0 ≤ x) && decide (x < l1.length)) = true then some (l0.map fun s => ((rd l1 s) % 4294967296), true) else some ([], false)) else none

set_option maxHeartbeats 8000000 in
set_option maxRecDepth 100000 in
theorem impl_TransposeUint64Uint32.calls (A0 : Option Addr) (c0 : Nat) (l0 : List Int) (A1 : Option Addr) (c1 : Nat) (l1 : List Int) (r1 : List Int) (r2 : Bool) (w : World) (hr0 : Kd.C (Kd.int .u64) w A0 l0.length l0) (hc0 : l0.length ≤ c0) (hr1 : Kd.C (Kd.int .i32) w A1 l1.length l1) (hc1 : l1.length ≤ c1) (h : impl_TransposeUint64Uint32.f l0 l1 = some (r1, r2)) :
    Calls Try.prog 21 #[.slice A0 l0.length c0, .slice A1 l1.length c1] w fun e w' => ∃ v0_ : Value, e = .returned (.tuple #[v0_, .bool r2]) ∧ Kd.R (Kd.int .u32) 44 w' w.heap.size (fun _ => True) v0_ r1 ∧ Below w.heap.size w w' := by
  unfold impl_TransposeUint64Uint32.f at h
  by_cases hn : l0.length ≤ 1000
  · rw [if_pos hn] at h
    have HH := Aside0.mk h
    have HN := Aside0.mk hn
    have HR0 := Aside0.mk hr0
    have HR1 := Aside0.mk hr1
    have HC0 := Aside0.mk hc0
    have HC1 := Aside0.mk hc1
    clear h hn hr0 hr1 hc0 hc1
    obtain ⟨i0, hi, hz0, hz1, hz2⟩ : ∃ i0, Try.prog.info? 44 = some i0 ∧ i0.zero = some (.int .u32 0) ∧ i0.size = 1 ∧ i0.bytes = 4 := by
      obtain ⟨i0, h1, h2⟩ := Option.map_eq_some_iff.1 info44
      simp only [Prod.mk.injEq] at h2
      exact ⟨i0, h1, h2.1, h2.2.1, h2.2.2⟩
    have hmk : ∀ W : World, (Instr.makeSlice 25 (.int .i64 (l0.length : Int)) (.int .i64 (l0.length : Int))).run Try.prog W = .ok (.slice (some ⟨W.heap.size, 0, none⟩) l0.length l0.length) (W.alloc (.cells (madeCells #[.int .u32 0] l0.length) 44)) := by
      intro W
      have hn := HN.out
      have h := run_make (P := Try.prog) W 25 44 i0 (.int .u32 0) Try.underlying25 hi hz0 .i64 .i64 (l0.length : Int) (l0.length : Int) (by omega) (by omega) (by rw [hz2]; omega) (by omega)
      simpa [hz1, Value.cells] using h
    clear hi hz0 hz1 hz2
    go_enter_defers Try.func21, Try.ntmps21
    go_wp2_with fail
    clear hmk
    obtain ⟨f1, f2, f3, f4⟩ := three_blocks w (.cells #[.slice (some ⟨w.heap.size + 1 + 1, 0, none⟩) l0.length l0.length] 25) (.cells #[.bool false] 4) (.cells (madeCells #[.int .u32 0] l0.length) 44)
    have f5 : Kd.R (Kd.int .u32) 44 (((w.alloc (.cells #[.slice (some ⟨w.heap.size + 1 + 1, 0, none⟩) l0.length l0.length] 25)).alloc (.cells #[.bool false] 4)).alloc (.cells (madeCells #[.int .u32 0] l0.length) 44)) w.heap.size (fun k => k = w.heap.size + 2) (.slice (some ⟨w.heap.size + 1 + 1, 0, none⟩) l0.length l0.length) (List.replicate l0.length 0) := by
      have h := Kd.R_of_own (h1 := fun _ => rfl) (ok := fun k => k = w.heap.size + 2) (own_made_of' (enc := Value.int .u32) (d := (0 : Int)) ((w.alloc (.cells #[.slice (some ⟨w.heap.size + 1 + 1, 0, none⟩) l0.length l0.length] 25)).alloc (.cells #[.bool false] 4)) w.heap.size 44 l0.length (by simp; omega) (by have := HN.out; omega)) (fun k hk => by simp [Value.ownBlock] at hk; omega)
      simp at h
      exact h
    generalize (((w.alloc (.cells #[.slice (some ⟨w.heap.size + 1 + 1, 0, none⟩) l0.length l0.length] 25)).alloc (.cells #[.bool false] 4)).alloc (.cells (madeCells #[.int .u32 0] l0.length) 44)) = W6 at f1 f2 f3 f4 f5 ⊢
    have k0 : ∀ W_, Kept W6 W_ (fun k => k = w.heap.size + 2) → Kd.C (Kd.int .u64) W_ A0 l0.length l0 := Kd.C_kept_came (Kd.heap_int _) HR0.out f3 (fun k hk => by omega)
    have k1 : ∀ W_, Kept W6 W_ (fun k => k = w.heap.size + 2) → Kd.C (Kd.int .i32) W_ A1 l1.length l1 := Kd.C_kept_came (Kd.heap_int _) HR1.out f3 (fun k hk => by omega)
    by_cases hgood : l0.all (fun x => decide (0 ≤ x) && decide (x < l1.length)) = true
    · -- every number is a place of the map
      have hh := HH.out
      rw [if_pos hgood] at hh
      simp only [Option.some.injEq, Prod.mk.injEq] at hh
      obtain ⟨e1, rfl⟩ := hh
      have hall : ∀ x ∈ l0, 0 ≤ x ∧ x < l1.length := by
        intro x hx
        have := List.all_eq_true.1 hgood x hx
        simpa using this
      have hrun := utils_transposeUint64Uint32_run l0 l1 HN.out hall l0.length (l0.length + 1) 0 (List.replicate l0.length 0) (by omega) (by simp) (by omega)
      rw [List.drop_zero, List.take_zero, List.nil_append, e1] at hrun
      have HE := Aside0.mk (show utils_TransposeUint64Uint32.f (l0.length + 1) l0 (List.replicate l0.length 0) l1 = some r1 by
        unfold utils_TransposeUint64Uint32.f utils_transposeUint64Uint32.f
        rw [show ((0 : Nat) : Int) = 0 from rfl] at hrun
        rw [hrun]; rfl)
      have HCALL := Aside0.mk (utils_TransposeUint64Uint32.calls (l0.length + 1) A0 c0 l0 (fun k => k = w.heap.size + 2) (.slice (some ⟨w.heap.size + 1 + 1, 0, none⟩) l0.length l0.length) (List.replicate l0.length 0) A1 c1 l1 r1 w W6 f3 k0 HC0.out f5 k1 HC1.out HE.out)
      have HF1 := Aside0.mk f1
      have HF2 := Aside0.mk f2
      have HF4 := Aside0.mk f4
      clear hgood HH hall hrun e1 HE k0 k1 f1 f2 f3 f4 f5
      refine HCALL.out.mono ?_
      rintro e w7 ⟨rfl, hR, hB, hK⟩
      have g1 := hK.2 w.heap.size (by have := HF4.out; omega) (by omega)
      rw [HF1.out] at g1
      have g2 := hK.2 (w.heap.size + 1) (by have := HF4.out; omega) (by omega)
      rw [HF2.out] at g2
      have c1_ : w7.cell? ⟨w.heap.size, 0, none⟩ = some (.slice (some ⟨w.heap.size + 1 + 1, 0, none⟩) l0.length l0.length) := (blk_cell g1 0).trans rfl
      have c2_ : w7.cell? ⟨w.heap.size + 1, 0, none⟩ = some (.bool false) := (blk_cell g2 0).trans rfl
      have z1_ : w7.frozen? ⟨w.heap.size, 0, none⟩ = false := blk_frozen g1 0
      have z2_ : w7.frozen? ⟨w.heap.size + 1, 0, none⟩ = false := blk_frozen g2 0
      have G1 := Aside0.mk g1
      have G2 := Aside0.mk g2
      have HRR := Aside0.mk (Kd.R_far (p := ⟨w.heap.size + 1, 0, none⟩) (Kd.R_far (p := ⟨w.heap.size, 0, none⟩) hR (fun k hk => by have := HF4.out; show k ≠ w.heap.size; omega) (.slice (some ⟨w.heap.size + 1 + 1, 0, none⟩) l0.length l0.length)) (fun k hk => by have := HF4.out; show k ≠ w.heap.size + 1; omega) (.bool true))
      have HBB := Aside0.mk (Below.setCell (p := ⟨w.heap.size + 1, 0, none⟩) (Below.setCell (p := ⟨w.heap.size, 0, none⟩) hB (Nat.le_refl _) (.slice (some ⟨w.heap.size + 1 + 1, 0, none⟩) l0.length l0.length)) (by show w.heap.size ≤ w.heap.size + 1; omega) (.bool true))
      clear g1 g2 hR hB hK HCALL HF1 HF2 HF4
      go_wp2_with fail
      refine leaves_cons (f := 48) (args := #[.pointer (some ⟨w.heap.size, 0, none⟩), .pointer (some ⟨w.heap.size + 1, 0, none⟩)]) (by simp) (by simp [go_sem]) ?_
      refine (noNumbers_uint32_idle _ _ _).mono ?_
      rintro e u' w'' ⟨rfl, rfl, rfl⟩
      refine ⟨.tuple #[.slice (some ⟨w.heap.size + 1 + 1, 0, none⟩) l0.length l0.length, .bool true], ?_, _, rfl, Kd.R_mono HRR.out (fun _ _ => trivial), HBB.out⟩
      simp [results, Try.results21, go_sem, c1_, c2_]
    · -- one is not
      have hh := HH.out
      rw [if_neg hgood] at hh
      simp only [Option.some.injEq, Prod.mk.injEq] at hh
      obtain ⟨rfl, rfl⟩ := hh
      have hbad : ∃ j : Int, 0 ≤ j ∧ j < l0.length ∧ Bad l0 l1 j := by
        have h2 : ∃ x ∈ l0, ¬ (0 ≤ x ∧ x < l1.length) := by
          refine Classical.byContradiction fun hno => hgood (List.all_eq_true.2 fun x hx => ?_)
          have : 0 ≤ x ∧ x < l1.length := Classical.byContradiction fun hx2 => hno ⟨x, hx, hx2⟩
          simpa using this
        obtain ⟨x, hx, hx2⟩ := h2
        obtain ⟨j, hj, rfl⟩ := List.getElem_of_mem hx
        refine ⟨(j : Int), by omega, by omega, ?_⟩
        have hr : rd l0 (j : Int) = l0[j] := by
          show l0.getD j 0 = _
          rw [List.getD_eq_getElem?_getD, List.getElem?_eq_getElem hj]; rfl
        unfold Bad; rw [hr]; omega
      have HCALL := Aside0.mk (utils_TransposeUint64Uint32.dies A0 c0 l0 (fun k => k = w.heap.size + 2) (.slice (some ⟨w.heap.size + 1 + 1, 0, none⟩) l0.length l0.length) (List.replicate l0.length 0) A1 c1 l1 w W6 f3 k0 HC0.out f5 k1 HC1.out (by simp) HN.out hbad)
      have HF1 := Aside0.mk f1
      have HF2 := Aside0.mk f2
      have HF4 := Aside0.mk f4
      clear hgood HH hbad k0 k1 f1 f2 f3 f4 f5
      refine HCALL.out.mono ?_
      rintro e w7 ⟨⟨t_, pv_, rfl⟩, hB, hK⟩
      have g1 := hK.2 w.heap.size (by have := HF4.out; omega) (by omega)
      rw [HF1.out] at g1
      have g2 := hK.2 (w.heap.size + 1) (by have := HF4.out; omega) (by omega)
      rw [HF2.out] at g2
      have c1_ : w7.cell? ⟨w.heap.size, 0, none⟩ = some (.slice (some ⟨w.heap.size + 1 + 1, 0, none⟩) l0.length l0.length) := (blk_cell g1 0).trans rfl
      have z1_ : w7.frozen? ⟨w.heap.size, 0, none⟩ = false := blk_frozen g1 0
      have g3 := blk_far g2 (p := ⟨w.heap.size, 0, none⟩) (by show w.heap.size + 1 ≠ w.heap.size; omega) (.slice none 0 0)
      have HBB := Aside0.mk (Below.setCell (p := ⟨w.heap.size + 1, 0, none⟩) (Below.setCell (p := ⟨w.heap.size, 0, none⟩) hB (Nat.le_refl _) (.slice none 0 0)) (by show w.heap.size ≤ w.heap.size + 1; omega) (.bool false))
      have g4 := blk_far (blk_set g1 0 (.slice none 0 0)) (p := ⟨w.heap.size + 1, 0, none⟩) (by show w.heap.size ≠ w.heap.size + 1; omega) (.bool false)
      have g5 := blk_set g3 0 (.bool false)
      have d1_ : ((w7.setCell ⟨w.heap.size, 0, none⟩ (.slice none 0 0)).setCell ⟨w.heap.size + 1, 0, none⟩ (.bool false)).cell? ⟨w.heap.size, 0, none⟩ = some (.slice none 0 0) := (blk_cell g4 0).trans rfl
      have d2_ : ((w7.setCell ⟨w.heap.size, 0, none⟩ (.slice none 0 0)).setCell ⟨w.heap.size + 1, 0, none⟩ (.bool false)).cell? ⟨w.heap.size + 1, 0, none⟩ = some (.bool false) := (blk_cell g5 0).trans rfl
      have HP := Aside0.mk (noNumbers_uint32_panicking ⟨w.heap.size, 0, none⟩ ⟨w.heap.size + 1, 0, none⟩ _ _ t_ pv_ [] w7 c1_ z1_ ((blk_cell g3 0).trans rfl) (blk_frozen g3 0))
      clear g1 g2 g3 g4 g5 hB hK HCALL HF1 HF2 HF4 c1_ z1_
      go_wp2_with fail
      refine leaves_cons (f := 48) (args := #[.pointer (some ⟨w.heap.size, 0, none⟩), .pointer (some ⟨w.heap.size + 1, 0, none⟩)]) (by simp) (by simp [go_sem]) ?_
      refine HP.out.mono ?_
      rintro e u' w'' ⟨rfl, rfl, rfl⟩
      refine ⟨.tuple #[.slice none 0 0, .bool false], ?_, _, rfl, Kd.R_nil _ _ _ _ _, HBB.out⟩
      simp [results, Try.results21, go_sem, d1_, d2_]
  · rw [if_neg hn] at h
    cases h
end Go.Proofs.Ytnjniacohbeonaa.Q
