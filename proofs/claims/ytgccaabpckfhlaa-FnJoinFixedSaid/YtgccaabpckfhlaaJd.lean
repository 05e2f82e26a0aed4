/- impl.partsOf. -/
import Derived.Test.YtgccaabpckfhlaaJc
namespace Go.Proofs.Ytgccaabpckfhlaa.Q
open Go.RowKit Go.Proofs.YtgccaabpckfhlaaW.PrintWords Go.Proofs.YtgccaabpckfhlaaW.PrintLast Go.Proofs.YtgccaabpckfhlaaW.PrintMore
set_option linter.unusedVariables false
set_option linter.unusedSimpArgs false
theorem PartAt.grown {w w1 : World} {base b0 d : Nat} {x : S28} {ds' : List Nat} {v : Value} (h : PartAt w base d x) (hr : Kd.R kIf 60 w b0 (fun _ => True) v ds') (hg : w.grownBy w1 v.ownBlock) : PartAt w1 base d x := by
  obtain ⟨q, sb, pb, A, c, a1, a2, a3, a4, a5, a6, a7, a8⟩ := h
  refine ⟨q, sb, pb, A, c, a1, a2, a3, blk_grown a4 hg (Kd.R_ne hr a4 (by decide)), blk_grown a5 hg (Kd.R_ne hr a5 (by decide)), blk_grown a6 hg (Kd.R_ne hr a6 (by decide)), a7, ?_⟩
  refine Kd.R_mono (Kd.R_grown (Kd.R_bound a8) hg ?_) (fun _ _ => trivial)
  rintro k ⟨_, _, _, q', hq, cells, hc⟩
  have hq5 : q' = 5 := by simpa [Kd.int, Kd.scalar] using hq
  subst hq5
  exact Kd.R_ne hr hc (by decide)
/-- The world behind a part's buffer, its type and the row of its buffer. -/
def W5 (w2 : World) (sl : Value) (n : Int) : World := ((w2.alloc (bufN sl n)).alloc (.cells #[] 49)).alloc (.cells #[.pointer (some ⟨w2.heap.size, 0, none⟩)] 36)
theorem w5_size (w2 : World) (sl : Value) (n : Int) : (W5 w2 sl n).heap.size = w2.heap.size + 1 + 1 + 1 := by simp [W5]
theorem w5_below (w2 : World) (sl : Value) (n : Int) : Below w2.heap.size w2 (W5 w2 sl n) := below_alloc (below_alloc (below_alloc (Below.refl _ _) _) _) _
theorem w5_pb (w2 : World) (sl : Value) (n : Int) : (W5 w2 sl n).heap[w2.heap.size]? = some (bufN sl n) := blk_alloc (blk_alloc (blk_new w2 _) _) _
theorem w5_sb (w2 : World) (sl : Value) (n : Int) : (W5 w2 sl n).heap[w2.heap.size + 1 + 1]? = some (.cells #[.pointer (some ⟨w2.heap.size, 0, none⟩)] 36 (0, 0)) := by
  have h := blk_new ((w2.alloc (bufN sl n)).alloc (.cells #[] 49)) (.cells #[.pointer (some ⟨w2.heap.size, 0, none⟩)] 36)
  simpa [W5] using h
theorem nd_calls (w2 : World) (sl : Value) (n off len : Int) : Calls Try.prog 15 #[.iface 48 (.pointer (some ⟨w2.heap.size + 1, 0, none⟩)), .int .i64 len, .slice (some ⟨w2.heap.size + 1 + 1, 0, none⟩) 1 1, .slice none 0 0, .int .i64 0, .int .i64 off] (W5 w2 sl n) fun e w' => e = .returned (.pointer (some ⟨w2.heap.size + 1 + 1 + 1, 0, none⟩)) ∧ w' = (W5 w2 sl n).alloc (dataO 1 (w2.heap.size + 1) off len (w2.heap.size + 1 + 1)) := by
  have h := newdata_calls (w2.heap.size + 1) len off (w2.heap.size + 1 + 1) w2.heap.size sl n (W5 w2 sl n) (w5_sb w2 sl n) (w5_pb w2 sl n)
  rwa [w5_size] at h
theorem newbytes_u (A : Option Addr) (n c : Nat) (w : World) : Calls Try.prog 14 #[.slice A n c] w fun e w' => e = .returned (.pointer (some ⟨w.heap.size, 0, none⟩)) ∧ w' = w.alloc (.cells #[.int .i64 0, .slice A n c, .int .i64 (n : Int), .bool false, .nilIface, .pointer none] 56) := newbytes_calls A n c w
theorem part_new {w2 : World} {base b1 : Nat} {A2 : Option Addr} {c2 : Nat} {x : S28} (r1 : Kd.R (Kd.int .u8) 5 w2 b1 (fun _ => True) (.slice A2 x.f1.length c2) x.f1) (h1 : base ≤ b1) (h2 : base ≤ w2.heap.size) :
    PartAt ((W5 w2 (.slice A2 x.f1.length c2) (x.f1.length : Int)).alloc (dataO 1 (w2.heap.size + 1) x.f2 x.f3 (w2.heap.size + 1 + 1))) base (w2.heap.size + 1 + 1 + 1) x := by
  have hb : Below w2.heap.size w2 ((W5 w2 (.slice A2 x.f1.length c2) (x.f1.length : Int)).alloc (dataO 1 (w2.heap.size + 1) x.f2 x.f3 (w2.heap.size + 1 + 1))) := (w5_below w2 _ _).trans ((below_alloc (Below.refl _ _) _).mono (by rw [w5_size]; omega))
  have hn := blk_new (W5 w2 (.slice A2 x.f1.length c2) (x.f1.length : Int)) (dataO 1 (w2.heap.size + 1) x.f2 x.f3 (w2.heap.size + 1 + 1))
  rw [w5_size] at hn
  exact ⟨w2.heap.size + 1, w2.heap.size + 1 + 1, w2.heap.size, A2, c2, by omega, by omega, h2, hn, blk_alloc (w5_sb w2 _ _) _, blk_alloc (w5_pb w2 _ _) _, (Kd.R_reads' r1).2.1, Kd.R_below (Kd.R_lower r1 h1) hb⟩
set_option maxHeartbeats 2000000 in
set_option maxRecDepth 100000 in
theorem partsOf_calls (A0 : Option Addr) (c0 : Nat) (l0 : List S28) (w : World) (hr0 : Kd.C k28 w A0 l0.length l0) (hc0 : l0.length ≤ c0) (hl : l0.length ≤ 20) (hs : ∀ x ∈ l0, x.f0 = true ∧ x.f1.length ≤ 2147483647) :
    Calls Try.prog 11 #[.slice A0 l0.length c0] w fun e w' => ∃ v ds, e = .returned v ∧ Kd.R kIf 60 w' w.heap.size (fun _ => True) v ds ∧ PartsAt w' w.heap.size ds l0 ∧ Below w.heap.size w w' := by
  have HR0 := Aside0.mk hr0
  have HS := Aside0.mk hs
  clear hr0 hs
  go_enter Try.func11, Try.ntmps11
  go_wp2
  go_loopg [3, 9] (l0.length + 1) (fun kq v3 v9 w' => ∃ (i : Nat) (ds : List Nat), v9 = .int .i64 (i : Int) ∧ Aside0 (i + kq = l0.length + 1) ∧ Aside0 (i ≤ l0.length) ∧ Aside0 (Kd.R kIf 60 w' w.heap.size (fun _ => True) v3 ds) ∧ Aside0 (PartsAt w' w.heap.size ds (l0.take i)) ∧ Aside0 (Below w.heap.size w w'))
  case atStart => exact ⟨0, [], rfl, ⟨by omega⟩, ⟨by omega⟩, ⟨Kd.R_nil _ _ _ _ _⟩, ⟨rfl, fun i t s h => by simp at h⟩, ⟨Below.refl _ _⟩⟩
  case round =>
    obtain ⟨i, ds, rfl, HK, HI, HR, HP, HB⟩ := hrel
    cases gk with
    | zero => exact absurd HK.out (by have := HI.out; omega)
    | succ k1 =>
      by_cases c2 : (i : Int) < (l0.length : Int)
      · have c2b : decide ((i : Int) < (l0.length : Int)) = true := decide_eq_true c2
        have hB := HB.out
        obtain ⟨ad, A1, c1, rfl, x0, x1, x2, x3, hl1, hi1⟩ := at_T28 (Kd.C_below HR0.out hB) (i : Int) (by omega) (by omega)
        rw [Int.toNat_natCast] at x0 x1 x2 x3
        have g0 : (0 : Int) ≤ (i : Int) := by omega
        have hget : l0[i]? = some (rd_T28 l0 (i : Int)) := by
          show _ = some (l0.getD (i : Int).toNat z28)
          rw [Int.toNat_natCast, List.getD_eq_getElem?_getD, List.getElem?_eq_getElem (by omega)]; rfl
        obtain ⟨hhas, hlen⟩ := HS.out _ (List.mem_of_getElem? hget)
        rw [hhas] at x0
        obtain ⟨x, hx⟩ : ∃ x, x = rd_T28 l0 (i : Int) := ⟨_, rfl⟩
        rw [← hx] at x1 x2 x3 hl1 hi1 hget hlen hhas
        have hcf : impl_copied.f x.f1 = some x.f1 := by
          unfold impl_copied.f
          simp only [Option.bind_some, List.length_nil, List.nil_append]
          rw [if_pos (by omega)]
        obtain ⟨W1, hW1⟩ : ∃ W1, W1 = wr.alloc (.cells #[.bool true, .slice A1 x.f1.length c1, .int .i64 x.f2, .int .i64 x.f3] 28) := ⟨_, rfl⟩
        have hb1 : Below wr.heap.size wr W1 := by rw [hW1]; exact below_alloc (Below.refl _ _) _
        have hn1 : W1.heap[wr.heap.size]? = some (.cells #[.bool true, .slice A1 x.f1.length c1, .int .i64 x.f2, .int .i64 x.f3] 28 (0, 0)) := by rw [hW1]; exact blk_new wr _
        have hC := impl_copied.calls A1 c1 x.f1 x.f1 W1 (Kd.C_below hi1 hb1) hl1 hcf
        rw [hW1] at hC
        have HC := Aside0.mk hC
        have HW1 := Aside0.mk hW1
        have HB1 := Aside0.mk hb1
        have HN1 := Aside0.mk hn1
        have HG := Aside0.mk hget
        have HX := Aside0.mk hx
        have dl : ds.length = i := by have := HP.out.1; rw [this, List.length_take]; omega
        clear hC hW1 hb1 hn1 hget hi1 hcf hhas
        clear hx
        go_wp2_with (first | (go_at_call 9; go_loud (refine HC.out.mono ?_; rintro e w2 ⟨v0, rfl, r1, hb2⟩; obtain ⟨A2, c2', rfl⟩ := Kd.R_slice r1; rw [← HW1.out] at hb2 r1; have y := blk_below HN1.out hb2; have d2 : (((w2.alloc (.cells #[.int .i64 0, .slice A2 x.f1.length c2', .int .i64 (x.f1.length : Int), .bool false, .nilIface, .pointer none] 56)).alloc (.cells #[] 49)).alloc (.cells #[.pointer (some ⟨w2.heap.size, 0, none⟩)] 36)).cell? ⟨wr.heap.size, 2, none⟩ = some (.int .i64 x.f2) := (blk_cell (blk_alloc (blk_alloc (blk_alloc y _) _) _) 2).trans rfl; have d3 : ((w2.alloc (.cells #[.int .i64 0, .slice A2 x.f1.length c2', .int .i64 (x.f1.length : Int), .bool false, .nilIface, .pointer none] 56)).alloc (.cells #[] 49)).cell? ⟨wr.heap.size, 3, none⟩ = some (.int .i64 x.f3) := (blk_cell (blk_alloc (blk_alloc y _) _) 3).trans rfl; have nd := nd_calls w2 (.slice A2 x.f1.length c2') (x.f1.length : Int) x.f2 x.f3; have hbA : Below wr.heap.size wr w2 := HB1.out.trans (hb2.mono HB1.out.size); have hbB : Below wr.heap.size wr ((W5 w2 (.slice A2 x.f1.length c2') (x.f1.length : Int)).alloc (dataO 1 (w2.heap.size + 1) x.f2 x.f3 (w2.heap.size + 1 + 1))) := hbA.trans (((w5_below w2 _ _).trans ((below_alloc (Below.refl _ _) _).mono (by rw [w5_size]; omega))).mono hbA.size); have PN := Aside0.mk (part_new (base := w.heap.size) r1 (Nat.le_trans hB.size HB1.out.size) (Nat.le_trans hB.size hbA.size)); have RR := Aside0.mk (Kd.R_below HR.out hbB); have HBB := Aside0.mk (hB.trans (hbB.mono hB.size)); have BB := Aside0.mk hbB; have ND := Aside0.mk nd; unfold W5 bufN dataO at ND RR HBB; clear r1 hb2 y nd hbA hbB)) | (go_at_call 14; refine (newbytes_u _ _ _ _).mono ?_; rintro e w3 ⟨rfl, rfl⟩) | (go_at_call 15; go_loud (refine ND.out.mono ?_; rintro e w4 ⟨rfl, rfl⟩)) | ((with_reducible refine gate_builtin (b := .append) (xs := #[.tmp 19, .tmp 31]) rfl ?_); at_builtin; go_loud (refine Kd.R_append kIf (w0 := w) w.heap.size rfl (.tmp 19) (.tmp 31) 38 60 .nilIface 16 rfl Try.underlying38 info60 rfl (by decide) (by omega) u3 ds (w2.heap.size + 1 + 1 + 1) [dV (w2.heap.size + 1 + 1 + 1)] (fun _ => True) (fun _ => False) rfl (by first | (go_simp; done) | (go_simp; rfl)) ?aP (fun _ hk => hk.elim) (fun _ _ => trivial) RR.out HBB.out HBB.out.size (by rw [dl]; omega) ?_; (case aP => exact rfl); intro v1 w7 ho hb hg hat; have n0_ := Aside0.mk ho; have n1_ := Aside0.mk hb; have n2_ := Aside0.mk hg; clear ho hb hg hat)))
        have hg : ((W5 w2 (.slice A2 x.f1.length c2') (x.f1.length : Int)).alloc (dataO 1 (w2.heap.size + 1) x.f2 x.f3 (w2.heap.size + 1 + 1))).grownBy w7 u3.ownBlock := n2_.out
        have hr6 : Kd.R kIf 60 ((W5 w2 (.slice A2 x.f1.length c2') (x.f1.length : Int)).alloc (dataO 1 (w2.heap.size + 1) x.f2 x.f3 (w2.heap.size + 1 + 1))) w.heap.size (fun _ => True) u3 ds := RR.out
        have hold : PartsAt w7 w.heap.size ds (l0.take i) := by
          have h := HP.out.move (Kept.of_below BB.out (fun _ => False)) (fun _ _ h => h)
          exact ⟨h.1, fun i' d' x' h1 h2 => (h.2 i' d' x' h1 h2).grown hr6 hg⟩
        have hnew := hold.snoc (PN.out.grown hr6 hg)
        have e1 : l0.take (i + 1) = l0.take i ++ [x] := by rw [List.take_add_one, HG.out]; simp
        rw [← e1] at hnew
        go_roundg k1
        case measure => have := HK.out; omega
        case rel => exact ⟨i + 1, _, (by simp), ⟨by have := HK.out; omega⟩, ⟨by omega⟩, n0_, ⟨hnew⟩, n1_⟩
      · have c2b : decide ((i : Int) < (l0.length : Int)) = false := decide_eq_false c2
        go_wp2
        go_ret
        have hi : i = l0.length := by have := HI.out; omega
        subst hi
        have hp := HP.out
        rw [List.take_length] at hp
        exact ⟨_, rfl, ds, HR.out, hp, HB.out⟩
end Go.Proofs.Ytgccaabpckfhlaa.Q
