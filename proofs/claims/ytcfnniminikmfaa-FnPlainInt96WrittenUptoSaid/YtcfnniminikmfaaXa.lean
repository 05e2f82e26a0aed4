/- impl.fixedArrays: each text's bytes in a row of its own; the encoder of texts of one length. -/
import Derived.Test.YtcfnniminikmfaaTb
namespace Go.Proofs.Ytcfnniminikmfaa.Q
open Go.RowKit Go.Proofs.YtcfnniminikmfaaW.PrintWords Go.Proofs.YtcfnniminikmfaaW.PrintLast Go.Proofs.YtcfnniminikmfaaW.PrintMore
set_option linter.unusedVariables false
set_option linter.unusedSimpArgs false
theorem info138 : (Try.prog.info? 138).map (fun i => (i.zero, i.size, i.bytes)) = some (some (.slice none 0 0), 1, 24) := by kernel_rfl
/-- Each has room for its length. -/
def Roomy (ts : List (Nat × Nat × Nat)) : Prop := ∀ t ∈ ts, t.2.1 ≤ t.2.2
theorem TextsAt.ne8 {w : World} {base b0 : Nat} {ts ts' : List (Nat × Nat × Nat)} {xs : List ByteArray} {v : Value} (h : TextsAt w base ts xs) (hr : Kd.R kSl 138 w b0 (fun _ => True) v ts') : ∀ t ∈ ts, some t.1 ≠ v.ownBlock := by
  intro t ht e
  obtain ⟨s, hT⟩ := h.mem ht
  obtain ⟨cs, fr, hc⟩ := hT.2.2.1
  obtain ⟨_, _, _, q, hq, cells, hcl⟩ := (Kd.R_bound hr).1 t.1 e.symm
  rw [hc] at hcl
  injection hcl with hcl
  injection hcl with _ e5
  subst e5
  simp [kSl, Kd.scalar] at hq
set_option maxHeartbeats 4000000 in
set_option maxRecDepth 100000 in
theorem fixedArrays_calls (A0 : Option Addr) (c0 : Nat) (l0 : List S29) (w : World) (hr0 : Kd.C k29 w A0 l0.length l0) (hc0 : l0.length ≤ c0) (hl : l0.length ≤ 500) (wd : Nat) (hwd : wd ≤ 1048576) (hs : ∀ x ∈ l0, x.f2.size = wd) :
    Calls Try.prog 46 #[.slice A0 l0.length c0, .int .i64 (wd : Int)] w fun e w' => ∃ v ts, e = .returned v ∧ Kd.R kSl 138 w' w.heap.size (fun _ => True) v ts ∧ TextsAt w' w.heap.size ts (l0.map S29.f2) ∧ Roomy ts ∧ Below w.heap.size w w' := by
  have HR0 := Aside0.mk hr0
  have HS := Aside0.mk hs
  clear hr0 hs
  go_enter Try.func46, Try.ntmps46
  go_wp2
  go_loopg [5, 10] (l0.length + 1) (fun kq v5 v10 w' => ∃ (i : Nat) (ts : List (Nat × Nat × Nat)), v10 = .int .i64 (i : Int) ∧ Aside0 (i + kq = l0.length + 1) ∧ Aside0 (i ≤ l0.length) ∧ Aside0 (Kd.R kSl 138 w' w.heap.size (fun _ => True) v5 ts) ∧ Aside0 (TextsAt w' w.heap.size ts ((l0.take i).map S29.f2)) ∧ Aside0 (Roomy ts) ∧ Aside0 (Below w.heap.size w w'))
  case atStart => exact ⟨0, [], rfl, ⟨by omega⟩, ⟨by omega⟩, ⟨Kd.R_nil _ _ _ _ _⟩, ⟨rfl, fun i t s h => by simp at h⟩, ⟨fun t h => by cases h⟩, ⟨Below.refl _ _⟩⟩
  case round =>
    obtain ⟨i, ts, rfl, HK, HI, HR, HT, HRM, HB⟩ := hrel
    cases gk with
    | zero => exact absurd HK.out (by have := HI.out; omega)
    | succ k1 =>
      by_cases c2 : (i : Int) < (l0.length : Int)
      · have c2b : decide ((i : Int) < (l0.length : Int)) = true := decide_eq_true c2
        have hB := HB.out
        obtain ⟨ad, A3, c3, rfl, x0, x1, x2, x3, hl3, hi3⟩ := at_T29 (Kd.C_below HR0.out hB) (i : Int) (by omega) (by omega)
        rw [Int.toNat_natCast] at x0 x1 x2 x3
        have hcv := fun W => print_bytes (P := Try.prog) 9 138 5 Try.underlying9 Try.underlying138 Try.underlying5 (rd_T29 l0 (i : Int)).f2 W
        have g0 : (0 : Int) ≤ (i : Int) := by omega
        have hmem : rd_T29 l0 (i : Int) ∈ l0 := by
          show l0.getD (i : Int).toNat z29 ∈ l0
          rw [Int.toNat_natCast, List.getD_eq_getElem?_getD, List.getElem?_eq_getElem (by omega)]
          exact List.getElem_mem _
        have hsz := HS.out _ hmem
        have hcd : (((rd_T29 l0 (i : Int)).f2.size : Int) != (wd : Int)) = false := by rw [hsz]; simp
        have hle : (rd_T29 l0 (i : Int)).f2.size ≤ 1048576 := by omega
        clear hsz
        have hcap : (rd_T29 l0 (i : Int)).f2.size ≤ grownCap (wr.alloc (.cells #[.bool (rd_T29 l0 (i : Int)).f0, .int .u64 (rd_T29 l0 (i : Int)).f1, .string (rd_T29 l0 (i : Int)).f2, .slice A3 (rd_T29 l0 (i : Int)).f3.length c3] 29)) (rd_T29 l0 (i : Int)).f2.size 0 5 := grownCap_ge _ _ _ _
        obtain ⟨W1, hW1⟩ : ∃ W1, W1 = wr.alloc (.cells #[.bool (rd_T29 l0 (i : Int)).f0, .int .u64 (rd_T29 l0 (i : Int)).f1, .string (rd_T29 l0 (i : Int)).f2, .slice A3 (rd_T29 l0 (i : Int)).f3.length c3] 29) := ⟨_, rfl⟩
        have b1 : Below wr.heap.size wr (Lib.bytesWorld W1 5 (rd_T29 l0 (i : Int)).f2) := bytes_below (by rw [hW1]; exact below_alloc (Below.refl _ _) _) (by rw [hW1]; simp) _ _
        have s1 : W1.heap.size = wr.heap.size + 1 := by rw [hW1]; simp
        have s2 : (Lib.bytesWorld W1 5 (rd_T29 l0 (i : Int)).f2).heap.size = wr.heap.size + 2 := by rw [Lib.bytesWorld_size, s1]
        have new1 : TextAt (Lib.bytesWorld W1 5 (rd_T29 l0 (i : Int)).f2) w.heap.size (wr.heap.size + 1, (rd_T29 l0 (i : Int)).f2.size, grownCap W1 (rd_T29 l0 (i : Int)).f2.size 0 5) (rd_T29 l0 (i : Int)).f2 := by
          refine ⟨rfl, by have := hB.size; show _ ≤ wr.heap.size + 1; omega, ⟨_, _, by have := Lib.bytesWorld_at_new W1 5 (rd_T29 l0 (i : Int)).f2; rw [s1] at this; exact this⟩, fun j hj => ?_⟩
          obtain ⟨_, _, h⟩ := bytes_reads W1 5 (rd_T29 l0 (i : Int)).f2 (by omega)
          rw [bytesOf_length] at hj
          obtain ⟨ad2, e, hc⟩ := h (by omega)
          obtain rfl := Option.some.inj e
          rw [s1] at hc
          exact hc j hj
        have hne := HT.out.ne8 HR.out
        have hT0 := HT.out
        have R1 := Kd.R_below HR.out b1
        have HBB := Aside0.mk (hB.trans (b1.mono hB.size))
        have e1 : (l0.take (i + 1)).map S29.f2 = (l0.take i).map S29.f2 ++ [(rd_T29 l0 (i : Int)).f2] := by
          have h : l0[i]? = some (rd_T29 l0 (i : Int)) := by
            show _ = some (l0.getD (i : Int).toNat z29)
            rw [Int.toNat_natCast, List.getD_eq_getElem?_getD, List.getElem?_eq_getElem (by omega)]; rfl
          rw [List.take_add_one, h]; simp
        have RR := Aside0.mk R1
        have NN := Aside0.mk new1
        have NE := Aside0.mk hne
        have T0 := Aside0.mk hT0
        have BB1 := Aside0.mk b1
        have EE := Aside0.mk e1
        have SZ := Aside0.mk s2
        have tl : ts.length = i := by have := HT.out.1; rw [this, List.length_map, List.length_take]; omega
        clear R1 new1 hne hT0 b1 e1 s2
        subst hW1
        go_wp2_with (first | ((with_reducible refine gate_builtin (b := .append) (xs := #[.tmp 20, .tmp 24]) rfl ?_); at_builtin; go_loud (refine Kd.R_append kSl (w0 := w) w.heap.size rfl (.tmp 20) (.tmp 24) 107 138 (.slice none 0 0) 24 rfl Try.underlying107 info138 rfl (by decide) (by omega) u5 ts (wr.heap.size + 1, (rd_T29 l0 (i : Int)).f2.size, grownCap (wr.alloc (.cells #[.bool (rd_T29 l0 (i : Int)).f0, .int .u64 (rd_T29 l0 (i : Int)).f1, .string (rd_T29 l0 (i : Int)).f2, .slice A3 (rd_T29 l0 (i : Int)).f3.length c3] 29)) (rd_T29 l0 (i : Int)).f2.size 0 5) [slOf (wr.heap.size + 1, (rd_T29 l0 (i : Int)).f2.size, grownCap (wr.alloc (.cells #[.bool (rd_T29 l0 (i : Int)).f0, .int .u64 (rd_T29 l0 (i : Int)).f1, .string (rd_T29 l0 (i : Int)).f2, .slice A3 (rd_T29 l0 (i : Int)).f3.length c3] 29)) (rd_T29 l0 (i : Int)).f2.size 0 5)] (fun _ => True) (fun _ => False) rfl (by first | (go_simp; done) | (go_simp; rfl)) ?aP (fun _ hk => hk.elim) (fun _ _ => trivial) RR.out HBB.out HBB.out.size (by rw [tl]; omega) ?_; (case aP => exact rfl); intro v1 w1 ho hb hg hat; have n0_ := Aside0.mk ho; have n1_ := Aside0.mk hb; have n2_ := Aside0.mk hg; clear ho hb hg hat)))
        have hg := n2_.out
        have hwr : ∀ t ∈ ts, w1.heap[t.1]? = wr.heap[t.1]? := by
          intro t ht
          obtain ⟨s, hT⟩ := T0.out.mem ht
          obtain ⟨cs, fr, hc⟩ := hT.2.2.1
          have hlt := blk_lt hc
          rw [hg.block t.1 (Nat.lt_of_lt_of_le hlt BB1.out.size) (NE.out t ht), BB1.out.block t.1 hlt]
        have hnw := NN.out.move (w1 := w1) (hg.block _ (by have := SZ.out; show wr.heap.size + 1 < _; omega) (by
          intro e
          obtain ⟨_, _, hlt, _⟩ := (Kd.R_bound HR.out).1 _ e.symm
          have : wr.heap.size + 1 < wr.heap.size := hlt
          omega))
        have hts := T0.out.snoc hwr hnw
        rw [← EE.out] at hts
        have hrm : Roomy (ts ++ [(wr.heap.size + 1, (rd_T29 l0 (i : Int)).f2.size, grownCap (wr.alloc (.cells #[.bool (rd_T29 l0 (i : Int)).f0, .int .u64 (rd_T29 l0 (i : Int)).f1, .string (rd_T29 l0 (i : Int)).f2, .slice A3 (rd_T29 l0 (i : Int)).f3.length c3] 29)) (rd_T29 l0 (i : Int)).f2.size 0 5)]) := by
          intro t ht
          rcases List.mem_append.1 ht with h | h
          · exact HRM.out t h
          · rw [List.mem_singleton.1 h]; exact hcap
        go_roundg k1
        case measure => have := HK.out; omega
        case rel => exact ⟨i + 1, _, (by simp), ⟨by have := HK.out; omega⟩, ⟨by omega⟩, n0_, ⟨hts⟩, ⟨hrm⟩, n1_⟩
      · have c2b : decide ((i : Int) < (l0.length : Int)) = false := decide_eq_false c2
        go_wp2
        go_ret
        have hi : i = l0.length := by have := HI.out; omega
        subst hi
        have ht := HT.out
        rw [List.take_length] at ht
        exact ⟨_, rfl, ts, HR.out, ht, HRM.out, HB.out⟩
end Go.Proofs.Ytcfnniminikmfaa.Q
