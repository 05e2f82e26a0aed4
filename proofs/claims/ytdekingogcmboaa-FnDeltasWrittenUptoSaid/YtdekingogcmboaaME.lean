/- Several texts of ours in one: Fs, Fs32, Ft. -/
import Derived.Test.YtdekingogcmboaaMD
/- All that waits is flushed: head and blocks in one buffer (64 bits). -/
namespace Go.Proofs.Ytdekingogcmboaa.Q
open Go.RowKit Go.Proofs.YtdekingogcmboaaW.PrintWords Go.Proofs.YtdekingogcmboaaW.PrintLast Go.Proofs.YtdekingogcmboaaW.PrintMore
set_option linter.unusedVariables false
set_option linter.unusedSimpArgs false
def tb (ds : List Int) : List Int := if ds = [] then [] else block ds
def hdr (tot : Nat) (first : Int) : List Int := leb 128 ++ leb 4 ++ leb tot ++ leb (zz first)
theorem hdr_len (tot : Nat) (first : Int) (ht : tot ≤ 2000) (hf : -9223372036854775808 ≤ first ∧ first ≤ 9223372036854775807) :
    (leb 128).length = 2 ∧ (leb 4).length = 1 ∧ (leb tot).length ≤ 2 ∧ (leb (zz first)).length ≤ 10 ∧ 0 < (leb tot).length ∧ (hdr tot first).length ≤ 15 ∧ 0 < (hdr tot first).length := by
  have h1 : (leb 128).length = 2 := by rw [leb_hi 128 (by omega), leb_lo (128 / 128) (by omega)]; rfl
  have h2 : (leb 4).length = 1 := by rw [leb_lo 4 (by omega)]; rfl
  have h3 := leb_len 2 tot (by omega) (by omega)
  have h4 := leb_len 10 (zz first) (by unfold zz; split <;> omega) (by omega)
  unfold hdr
  simp only [List.length_append]
  omega
theorem fb64_any {w : World} {lo E S W tot : Nat} {first cur : Int} {ds out : List Int} (h : En 75 w lo E S W tot first cur ds out) (hf : Fit ds) (hl : ds.length ≤ 128) (ho : out.length ≤ 200000) :
    Calls Try.prog 29 #[.pointer (some ⟨E, 0, none⟩)] w fun e w' => e = .returned (.tuple #[]) ∧ En 75 w' lo E S W tot first cur [] (out ++ tb ds) ∧ Below lo w w' := by
  by_cases c : ds = []
  · subst c
    refine (fb64_none h).mono ?_
    rintro e w' ⟨he, rfl⟩
    exact ⟨he, by simpa [tb] using h, Below.refl _ _⟩
  · unfold tb
    rw [if_neg c]
    exact fb64_calls h hf hl c ho
theorem tb_len (ds : List Int) (h : Fit ds) : (tb ds).length ≤ 1038 := by
  unfold tb
  split
  · simp
  · exact block_len ds h
theorem Bs.keepAll {w w' : World} {lo W S : Nat} {done : List Int} {byo buf bto : Nat} {rs : List Int} (h : Bs w lo W S done byo buf bto rs) (k : ∀ g, g < w.heap.size → w'.heap[g]? = w.heap[g]?) : Bs w' lo W S done byo buf bto rs := by
  obtain ⟨B, D, z, q, G, b, s, l⟩ := h
  exact ⟨B, D, z, q, G, ⟨(k _ b.lt).trans b.1, b.2⟩, ⟨(k _ (blk_lt s.s)).trans s.s, ⟨(k _ (blk_lt s.b.1)).trans s.b.1, (k _ (blk_lt s.b.2)).trans s.b.2⟩, s.le, s.lo, s.hi⟩, l⟩
theorem head_new (w : World) : ∀ W, W = ((w.alloc (zeros 32)).alloc (.cells #[.slice (some ⟨w.heap.size, 0, none⟩) 32 32] 107)).alloc (.cells (bwL (.iface 105 (.pointer (some ⟨w.heap.size + 1, 0, none⟩))) 0 0 0 (List.replicate 18 0)).toArray 95) →
    Hd W w.heap.size (w.heap.size + 2) (w.heap.size + 1) w.heap.size [] ∧ Below w.heap.size w W := by
  rintro W rfl
  have h1 := row_zeros w 32
  have h2 := blk_new (w.alloc (zeros 32)) (.cells #[.slice (some ⟨w.heap.size, 0, none⟩) 32 32] 107)
  have h3 := blk_new ((w.alloc (zeros 32)).alloc (.cells #[.slice (some ⟨w.heap.size, 0, none⟩) 32 32] 107)) (.cells (bwL (.iface 105 (.pointer (some ⟨w.heap.size + 1, 0, none⟩))) 0 0 0 (List.replicate 18 0)).toArray 95)
  have s1 : (w.alloc (zeros 32)).heap.size = w.heap.size + 1 := by simp
  have s2 : ((w.alloc (zeros 32)).alloc (.cells #[.slice (some ⟨w.heap.size, 0, none⟩) 32 32] 107)).heap.size = w.heap.size + 2 := by simp
  rw [s1] at h2
  rw [s2] at h3
  refine ⟨⟨List.replicate 18 0, ⟨h3, by simp⟩, blk_alloc h2 _, blk_alloc (blk_alloc h1 _) _, by simp, by omega, by omega, by omega⟩, ?_⟩
  exact ((below_alloc (Below.refl _ _) _).trans ((below_alloc (Below.refl _ _) _).mono (by rw [s1]; omega))).trans ((below_alloc (Below.refl _ _) _).mono (by rw [s2]; omega))
/-- What is needed of a world when the bytes are joined. -/
structure Jn (w : World) (E W S B D base lo : Nat) (q : Int) (G : Nat) (T : TypeId) (cs : Array Value) (O Hs : List Int) (z : Nat) (w0 : World) : Prop where
  e : w.heap[E]? = some (.cells cs T (0, 0))
  bw : ∃ rs, Bw w W (.iface 68 (.pointer (some ⟨S, 0, none⟩))) 0 O.length 0 rs
  d : IsBuf w B D (O ++ List.replicate z 0) q G
  x : Row w base (Hs ++ List.replicate (32 - Hs.length) 0)
  b : Below lo w0 w
  s : base < w.heap.size
theorem Jn.move {w w' : World} {E W S B D base lo : Nat} {q : Int} {G : Nat} {T : TypeId} {cs : Array Value} {O Hs : List Int} {z : Nat} {w0 : World} (h : Jn w E W S B D base lo q G T cs O Hs z w0) (k : ∀ g, g < w.heap.size → w'.heap[g]? = w.heap[g]?) (b : Below lo w w') : Jn w' E W S B D base lo q G T cs O Hs z w0 := by
  obtain ⟨rs, hb⟩ := h.bw
  exact ⟨(k _ (blk_lt h.e)).trans h.e, ⟨rs, (k _ hb.lt).trans hb.1, hb.2⟩, ⟨(k _ (blk_lt h.d.1)).trans h.d.1, (k _ (blk_lt h.d.2)).trans h.d.2⟩, (k _ (blk_lt h.x)).trans h.x, h.b.trans b, Nat.lt_of_lt_of_le h.s b.size⟩
theorem Jn.own {w : World} {E W S B D base lo : Nat} {q : Int} {G : Nat} {T : TypeId} {cs : Array Value} {O Hs : List Int} {z : Nat} {w0 : World} (h : Jn w E W S B D base lo q G T cs O Hs z w0) (hl : Hs.length ≤ 32) : w.ownsRow base 5 1 (.slice (some ⟨base, 0, none⟩) Hs.length 32) Hs.length (Hs.map (Value.int .u8)) := by
  refine ⟨by simp, .inr ⟨base, 32, _, rfl, Nat.le_refl _, h.x, hl, by decide, ?_, ?_⟩⟩
  · simp; omega
  · simp
theorem Jn.R {w : World} {E W S B D base lo : Nat} {q : Int} {G : Nat} {T : TypeId} {cs : Array Value} {O Hs : List Int} {z : Nat} {w0 : World} (h : Jn w E W S B D base lo q G T cs O Hs z w0) (hl : Hs.length ≤ 32) : Kd.R (Kd.int .u8) 5 w base (fun _ => True) (.slice (some ⟨base, 0, none⟩) Hs.length 32) Hs :=
  Kd.R_of_own (h.own hl) (fun _ _ => trivial)
theorem Jn.C {w : World} {E W S B D base lo : Nat} {q : Int} {G : Nat} {T : TypeId} {cs : Array Value} {O Hs : List Int} {z : Nat} {w0 : World} (h : Jn w E W S B D base lo q G T cs O Hs z w0) (ho : O.length ≤ 1000000) : Kd.C (Kd.int .u8) w (some ⟨D, 0, none⟩) O.length O := by
  refine Kd.C_of_reads (enc := Value.int .u8) (d := (0 : Int)) (h1 := fun _ => rfl) ⟨rfl, by omega, fun _ => ⟨_, rfl, fun j hj => ?_⟩⟩
  have e : (⟨D, 0, none⟩ : Addr).add j = ⟨D, j, none⟩ := by simp [Addr.add]; omega
  rw [e, h.d.2.cell j (by simp; omega), List.getD_eq_getElem?_getD, List.getD_eq_getElem?_getD, List.getElem?_append_left (by omega)]
set_option maxHeartbeats 8000000 in
set_option maxRecDepth 100000 in
theorem fv64_calls {w : World} {lo E S W tot : Nat} {first cur : Int} {ds out : List Int} (h : En 75 w lo E S W tot first cur ds out) (hf : Fit ds) (hl : ds.length ≤ 128) (ho : out.length ≤ 20000) (ht : tot ≤ 2000) (hfi : -9223372036854775808 ≤ first ∧ first ≤ 9223372036854775807) :
    Calls Try.prog 21 #[.pointer (some ⟨E, 0, none⟩)] w fun e w' => ∃ (BB : Nat) (a : Addr) (c : Nat), e = .returned (.tuple #[.iface 89 (.agg #[.pointer (some ⟨BB, 0, none⟩)]), .nilIface]) ∧
      w'.heap[BB]? = some (nbO (.slice (some a) (hdr tot first ++ (out ++ tb ds)).length c) (hdr tot first ++ (out ++ tb ds)).length) ∧ (hdr tot first ++ (out ++ tb ds)).length ≤ c ∧ 0 < c ∧ Kd.C (Kd.int .u8) w' (some a) (hdr tot first ++ (out ++ tb ds)).length (hdr tot first ++ (out ++ tb ds)) ∧ Below lo w w' := by
  have htl := tb_len ds hf
  have HFB := Aside0.mk (fb64_any h hf hl (by omega))
  obtain ⟨dv, hE, hlo, hD, hS⟩ := h
  have hol : (out ++ tb ds).length ≤ 22000 := by simp; omega
  generalize out ++ tb ds = O at HFB hol ⊢
  have e3 : w.cell? ⟨E, 3, none⟩ = some (.pointer (some ⟨W, 0, none⟩)) := (blk_cell hE 3).trans rfl
  have HOL := Aside0.mk hol
  have hhl := hdr_len tot first ht hfi
  generalize hHs : hdr tot first = Hs at hhl ⊢
  have HHL := Aside0.mk hhl
  have HHS := Aside0.mk hHs
  clear hhl hHs
  have HFI := Aside0.mk (And.intro ht hfi)
  have HLO := Aside0.mk hlo
  clear hE hlo hD hS htl hf hl ho ht hfi hol
  go_enter_defers Try.func21, Try.ntmps21
  go_upto_region 7 with (first | (go_at_call 29; go_loud (refine HFB.out.mono ?_; rintro e w1 ⟨rfl, ⟨dv1, hE1, _, hD1, pre, N, bits, hst, hb0, hout⟩, b1⟩; have y3 : w1.cell? ⟨E, 3, none⟩ = some (.pointer (some ⟨W, 0, none⟩)) := (blk_cell hE1 3).trans rfl; have hsl := Sm.len hb0 hout; have HST := Aside0.mk (st_flush hst (by have := HOL.out; omega)); have HX := Aside0.mk (show pre ++ toB ((bits + 7) / 8) N = O by rw [← hout]; congr 2; omega); have HE1 := Aside0.mk (And.intro hE1 b1); clear hE1 hD1 hst hb0 hout b1 hsl)) | (go_at_call 31; with_reducible refine HST.out.mono ?_; rintro e w2 ⟨rfl, s2, f2⟩; have HS2 := Aside0.mk (And.intro s2 f2); clear s2 f2))
  obtain ⟨hE1, b1⟩ := HE1.out
  obtain ⟨s2, f2⟩ := HS2.out
  rw [HX.out] at s2
  have hE2 := f2.keep E 75 _ hE1 (by decide) (by decide) (by decide) (by decide)
  have b2 := b1.trans f2.below
  obtain ⟨_, rs2, hbs⟩ := s2
  have ht2 : thr O 0 0 = O := by simp [thr, toB]
  rw [ht2] at hbs
  have hbs2 : Bs w2 lo W S O O.length 0 0 rs2 := hbs
  obtain ⟨hhd, hbh⟩ := head_new w2 _ rfl
  have HBS := Aside0.mk (And.intro hbs2 (And.intro hE2 b2))
  have HW1 := Aside0.mk (newwab_calls (some ⟨w2.heap.size, 0, none⟩) 32 32 (w2.alloc (zeros 32)))
  have HW2 := Aside0.mk (newbwi_calls (.iface 105 (.pointer (some ⟨w2.heap.size + 1, 0, none⟩))) rfl ((w2.alloc (zeros 32)).alloc (.cells #[.slice (some ⟨w2.heap.size, 0, none⟩) 32 32] 107)) _ rfl)
  have hs1 : (w2.alloc (zeros 32)).heap.size = w2.heap.size + 1 := by simp
  have hs2 : ((w2.alloc (zeros 32)).alloc (.cells #[.slice (some ⟨w2.heap.size, 0, none⟩) 32 32] 107)).heap.size = w2.heap.size + 2 := by simp
  rw [hs1] at HW1
  rw [hs2] at HW2
  have hmk : ∀ W : World, (Instr.makeSlice 27 (.int .i64 32) (.int .i64 32)).run Try.prog W = .ok (.slice (some ⟨W.heap.size, 0, none⟩) 32 32) (W.alloc (zeros 32)) := make_bytes 32 (by omega)
  generalize ((w2.alloc (zeros 32)).alloc (.cells #[.slice (some ⟨w2.heap.size, 0, none⟩) 32 32] 107)).alloc (.cells (bwL (.iface 105 (.pointer (some ⟨w2.heap.size + 1, 0, none⟩))) 0 0 0 (List.replicate 18 0)).toArray 95) = w3 at hhd hbh HW2
  have HH := Aside0.mk (And.intro hhd hbh)
  clear hE1 b1 f2 hE2 b2 hbs hbs2 hhd hbh HX HE1 HS2 HFB hs1 hs2 ht2
  go_upto_region 9 with (first | (go_at_call 32; with_reducible refine HW1.out.mono ?_; rintro e wx ⟨rfl, hwx⟩; subst wx) | (go_at_call 28; with_reducible refine HW2.out.mono ?_; rintro e wx ⟨rfl, hwx⟩; subst wx))
  generalize hbase : w2.heap.size = base at HH ⊢
  obtain ⟨hhd, hbh⟩ := HH.out
  obtain ⟨hbs2, hE2, hb2⟩ := HBS.out
  have hEb : E < base := by rw [← hbase]; exact blk_lt hE2
  have HEC := Aside0.mk (fun w' (b : Below base w2 w') => (b.block E hEb).trans hE2)
  have k3 := HEC.out w3 hbh
  have y7 : w3.cell? ⟨E, 7, none⟩ = some (.int .u64 128) := (blk_cell k3 7).trans rfl
  obtain ⟨hl1, hl2, hl3, hl4, hl5, hl6, hl7⟩ := HHL.out
  have HV1 := Aside0.mk (show Calls Try.prog 33 #[_, .int .u64 128] w3 _ from hvlq_calls 128 hhd (by omega) (by rw [hl1]; simp))
  have HB3 := Aside0.mk hbh
  have HBA := Aside0.mk (And.intro hbase hEb)
  clear hhd hbh hbs2 hE2 hb2 hEb k3 HH hbase
  go_upto_region 10 with (first | (go_at_call 33; with_reducible refine HV1.out.mono ?_; rintro e w4 ⟨rfl, h4, b4⟩; have b4' := HB3.out.trans b4; have k4 := HEC.out w4 b4'; have y9 : w4.cell? ⟨E, 9, none⟩ = some (.int .u64 4) := (blk_cell k4 9).trans rfl; have HV2 := Aside0.mk (show Calls Try.prog 33 #[_, .int .u64 4] w4 _ from hvlq_calls 4 h4 (by omega) (by rw [hl2]; simp [hl1])); have HB4 := Aside0.mk b4'; clear h4 b4 b4' k4))
  clear y7
  go_upto_region 11 with (first | (go_at_call 33; with_reducible refine HV2.out.mono ?_; rintro e w5 ⟨rfl, h5, b5⟩; have b5' := HB4.out.trans b5; have k5 := HEC.out w5 b5'; have y4 : w5.cell? ⟨E, 4, none⟩ = some (.int .u64 (tot : Int)) := (blk_cell k5 4).trans rfl; have HV3 := Aside0.mk (hvlq_calls tot h5 (by have := HFI.out.1; omega) (by simp [hl1, hl2]; omega)); have HB5 := Aside0.mk b5'; clear h5 b5 b5' k5))
  clear y9
  go_upto_region 12 with (first | (go_at_call 33; with_reducible refine HV3.out.mono ?_; rintro e w6 ⟨rfl, h6, b6⟩; have b6' := HB5.out.trans b6; have k6 := HEC.out w6 b6'; have y5 : w6.cell? ⟨E, 5, none⟩ = some (.int .i64 first) := (blk_cell k6 5).trans rfl; have HV4 := Aside0.mk (hzig_calls first h6 HFI.out.2.1 HFI.out.2.2 (by simp [hl1, hl2]; omega)); have HB6 := Aside0.mk b6'; clear h6 b6 b6' k6))
  clear y4
  go_upto_region 15 with (first | (go_at_call 34; go_loud (refine HV4.out.mono ?_; rintro e w7 ⟨rfl, h7, b7⟩; obtain ⟨rs7, u1, u2, u3, u4, u5, u6, u7⟩ := h7; rw [show [] ++ leb 128 ++ leb 4 ++ leb tot ++ leb (zz first) = Hs by rw [← HHS.out]; simp [hdr]] at u1 u3; have HFN := Aside0.mk (flushn_calls u1); have HWR := Aside0.mk (written_calls u1 (by omega) rfl); have hsl := sliceTo_b ⟨base, 0, none⟩ Hs.length 32 32 (by omega) (by omega); have b7' := HB6.out.trans b7; have H7 := Aside0.mk (And.intro u3 (And.intro u7 b7')); clear u1 u2 u3 u4 u5 u6 u7 b7 b7')) | (go_at_call 31; with_reducible refine HFN.out.mono ?_; rintro e wx ⟨rfl, hwx⟩; subst wx) | (go_at_call 35; refine HWR.out.mono ?_; rintro e w8 ⟨rfl, m8, rfl⟩))
  clear y5 hl1 hl2 hl3 hl4 hl5 hl6 hl7
  obtain ⟨r7, l7, b7⟩ := H7.out
  obtain ⟨hbase, hEb⟩ := HBA.out
  obtain ⟨hbs2, hE2, hb2⟩ := HBS.out
  have b8 : Below base w2 (w7.drewN m8) := pw_below_drewN b7 m8
  have k8 := HEC.out (w7.drewN m8) b8
  have bs8 := hbs2.keepAll (w' := w7.drewN m8) (fun g hg => b8.block g (by rw [← hbase]; exact hg))
  have r8 : Row (w7.drewN m8) base _ := r7
  generalize w7.drewN m8 = w8 at b8 k8 bs8 r8 ⊢
  have f4 := blk_frozen k8 4
  have y4 : w8.cell? ⟨E, 4, none⟩ = some (.int .u64 (tot : Int)) := (blk_cell k8 4).trans rfl
  have k9 := blk_set k8 4 (.int .u64 0)
  change (w8.setCell ⟨E, 4, none⟩ (.int .u64 0)).heap[E]? = some (.cells (encL S W 0 first cur dv1) 75 (0, 0)) at k9
  have bs9 := bs8.setE k8 (by decide) (by decide) (by decide) (by decide) 4 (.int .u64 0)
  have r9 := blk_far r8 (p := ⟨E, 4, none⟩) (by show base ≠ E; omega) (.int .u64 0)
  have s9 : base < (w8.setCell ⟨E, 4, none⟩ (.int .u64 0)).heap.size := by simp; exact blk_lt r8
  have b9 : Below lo w (w8.setCell ⟨E, 4, none⟩ (.int .u64 0)) := Below.setCell (p := ⟨E, 4, none⟩) (hb2.trans (b8.mono (by have := HLO.out; omega))) HLO.out _
  have X9 := Aside0.mk (And.intro k9 (And.intro bs9 (And.intro r9 (And.intro b9 s9))))
  clear k8 bs8 r8 k9 bs9 r9 b9 s9 b8 hbs2 hE2 hb2 r7 b7 hbase
  go_upto_region 16 with (fail)
  obtain ⟨k9, bs9, r9, b9, s9⟩ := X9.out
  generalize w8.setCell ⟨E, 4, none⟩ (.int .u64 0) = w9 at k9 bs9 r9 b9 s9 ⊢
  clear X9 f4 y4
  have y3 : w9.cell? ⟨E, 3, none⟩ = some (.pointer (some ⟨W, 0, none⟩)) := (blk_cell k9 3).trans rfl
  have y1 : w9.cell? ⟨E, 1, none⟩ = some (.pointer (some ⟨S, 0, none⟩)) := (blk_cell k9 1).trans rfl
  obtain ⟨B, D, z, q, G, hbw, hsn, m1, m2, m3, m4⟩ := bs9
  have HFI2 := Aside0.mk (finish_calls S B D _ q G w9 hsn)
  have X9 := Aside0.mk (And.intro k9 (And.intro hbw (And.intro hsn (And.intro r9 (And.intro b9 s9)))))
  have HM := Aside0.mk (And.intro m1 (And.intro m2 (And.intro m3 m4)))
  clear k9 hbw hsn r9 b9 s9 m1 m2 m3 m4
  go_upto_region 19 with (first | (go_at_call 36; refine HFI2.out.mono ?_; rintro e w10 ⟨rfl, hbuf, hk10, hb10⟩; have X10 := Aside0.mk (And.intro hbuf (And.intro hk10 hb10)); clear hbuf hk10 hb10))
  obtain ⟨hbuf, hk10, hb10⟩ := X10.out
  obtain ⟨k9, hbw, hsn, r9, b9, s9⟩ := X9.out
  have hnS : ∀ g t (cs : Array Value), w9.heap[g]? = some (.cells cs t (0, 0)) → t ≠ 110 → t ≠ 117 → ¬ (g = S ∨ g = B) := fun g t cs e h1 h2 hg => hg.elim (blk_ne e hsn.s h1) (blk_ne e hsn.b.1 h2)
  have hj : Jn w10 E W S B D base lo q G 75 (encL S W 0 first cur dv1) O Hs z w := by
    refine ⟨(hk10.2 E (blk_lt k9) (hnS E 75 _ k9 (by decide) (by decide))).trans k9, ⟨rs2, hbw.kept hk10 (hnS W 95 _ hbw.1 (by decide) (by decide))⟩, hbuf, (hk10.2 base (blk_lt r9) (hnS base 5 _ r9 (by decide) (by decide))).trans r9, ?_, Nat.lt_of_lt_of_le s9 hk10.1⟩
    obtain ⟨m1, m2, m3, m4⟩ := HM.out
    exact b9.trans (hb10.mono (by omega))
  have y3 : w10.cell? ⟨E, 3, none⟩ = some (.pointer (some ⟨W, 0, none⟩)) := (blk_cell hj.e 3).trans rfl
  have hzl : (O ++ List.replicate z (0 : Int)).length = O.length + z := by simp
  have hDb : D ≠ base := fun e => by
    have h1 := hsn.b.2
    have h2 := r9
    unfold Row at h1 h2
    rw [e, h2] at h1
    have h3 := congrArg (fun o => match o with | some (Obj.cells c _ _) => c.size | _ => 0) h1
    have h4 := hsn.lo
    have h5 := HHL.out.2.2.2.2.2.1
    simp at h3 h4
    omega
  have HDB := Aside0.mk hDb
  clear hDb
  have hsl2 := sliceTo_b ⟨D, 0, none⟩ O.length (O.length + z) (O.length + z) (by omega) (by have := hsn.lo; omega)
  have HPB := Aside0.mk (pbuf_calls B D _ q G (w10.drewN 1) ⟨hbuf.1, hbuf.2⟩)
  rw [hzl] at HPB
  have HJ := Aside0.mk hj
  have HBU := Aside0.mk (And.intro hbuf (And.intro hsn.hi hsn.lo))
  clear hzl hbuf hk10 hb10 k9 hbw hsn r9 b9 s9 hnS hj
  go_region_held3 (fun w' => w'.cell? ⟨E, 3, none⟩ = some (.pointer (some ⟨W, 0, none⟩))) (go_keep) (first | (go_at_call 102; go_loud (refine HPB.out.mono ?_; rintro e w11 ⟨rfl, hw11⟩; have hj11 := HJ.out.move (w' := w11) (fun g hg => by rw [hw11]; exact (below_alloc (Below.refl _ (w10.drewN 1)) _).block g hg) (by rw [hw11]; exact (pw_below_drewN (Below.refl _ _) 1).trans ((below_alloc (Below.refl _ _) _).mono (by have := HLO.out; have := blk_lt HJ.out.e; show lo ≤ w10.heap.size; omega))); obtain ⟨rs11, hbw11⟩ := hj11.bw; have HWR2 := Aside0.mk (written_calls hbw11 (by have := HOL.out; omega) rfl); have y3' : w11.cell? ⟨E, 3, none⟩ = some (.pointer (some ⟨W, 0, none⟩)) := (blk_cell hj11.e 3).trans rfl; have HJ11 := Aside0.mk hj11; clear hj11 hbw11 hw11)) | (go_at_call 35; go_loud (refine HWR2.out.mono ?_; rintro e w12 ⟨rfl, m12, rfl⟩; have hj12 := HJ11.out.move (w' := w11.drewN m12) (fun g hg => rfl) (pw_below_drewN (Below.refl _ _) _); have HJ12 := Aside0.mk hj12; clear hj12)) | (refine Kd.R_append_rows_step (Kd.int .u8) (w0 := w11.drewN m12) base (by rfl) (.tmp 78) (.tmp 86) 27 5 (.int .u8 0) 1 rfl Try.underlying27 info5 rfl (by decide) (by omega) (.slice (some ⟨base, 0, none⟩) Hs.length 32) Hs O (some ⟨D, 0, none⟩) O.length (O.length + z) (fun _ => True) (fun _ => False) rfl rfl (HJ12.out.R (by have := HHL.out; omega)) (HJ12.out.C (by have := HOL.out; omega)) (fun _ _ h => h) (fun _ h => h.elim) (fun _ _ => trivial) (Below.refl _ _) (Nat.le_of_lt HJ12.out.s) (by have := HHL.out; have := HOL.out; omega) ?_; intro v13 w13 ho hb hg hat; obtain ⟨A13, c13, rfl⟩ := Kd.R_slice ho; have y3'' : w13.cell? ⟨E, 3, none⟩ = some (.pointer (some ⟨W, 0, none⟩)) := (World.grownBy.cell hg (blk_cell HJ12.out.e 3) (by simp [Value.ownBlock]; have := HBA.out.2; omega)).trans rfl; have HP13 := Aside0.mk (And.intro ho (And.intro hb (And.intro hg hat))); clear ho hb hg hat))
  have HNB := Aside0.mk (nbb_calls A13 (Hs ++ O).length c13 w13)
  rw [List.length_append] at HNB
  go_wp2_with (first | (go_at_call 37; refine HNB.out.mono ?_; rintro e w14 ⟨rfl, hw14⟩; subst w14))
  obtain ⟨ho13, hb13, hg13, hat13⟩ := HP13.out
  have hj := HJ12.out
  have hBb : B ≠ base := blk_ne hj.d.1 hj.x (by decide)
  have hD13 : w13.heap[D]? = _ := (hg13.block D (blk_lt hj.d.2) (by simp [Value.ownBlock]; exact HDB.out)).trans hj.d.2
  have hB13 : w13.heap[B]? = _ := (hg13.block B (blk_lt hj.d.1) (by simp [Value.ownBlock]; exact hBb)).trans hj.d.1
  have hbuf14 : IsBuf (w13.alloc (nbO (.slice A13 (Hs.length + O.length) c13) (Hs.length + O.length))) B D (O ++ List.replicate z 0) q G := ⟨blk_alloc hB13 _, blk_alloc hD13 _⟩
  have hn14 := blk_new w13 (nbO (.slice A13 (Hs.length + O.length) c13) (Hs.length + O.length))
  have hown := Kd.own_of_R ho13
  have hR : Kd.R (Kd.int .u8) 5 w13 base (fun k => k ≠ B ∧ k ≠ D) (.slice A13 (Hs ++ O).length c13) (Hs ++ O) := by
    refine Kd.R_of_own hown (fun k hk => ?_)
    obtain ⟨cells, hc⟩ := own_typed hown k hk
    refine ⟨fun e => by rw [e, hB13] at hc; simp [bufO] at hc, ?_⟩
    rcases hat13 with h | ⟨b, h, hle⟩
    · rw [h] at hk
      simp [Value.ownBlock] at hk
      intro e; exact HDB.out (e.symm.trans hk.symm)
    · rw [h] at hk
      injection hk with hk
      have := blk_lt hj.d.2
      intro e; omega
  have hlo13 : Below lo w (w13.alloc (nbO (.slice A13 (Hs.length + O.length) c13) (Hs.length + O.length))) := by
    have hbl : lo ≤ base := by have := HLO.out; have := HBA.out.2; omega
    have hs := hj.s
    have hs13 := hg13.size
    exact (hj.b.trans (hb13.mono hbl)).trans ((below_alloc (Below.refl _ _) _).mono (by omega))
  have hRa : Kd.R (Kd.int .u8) 5 (w13.alloc (nbO (.slice A13 (Hs.length + O.length) c13) (Hs.length + O.length))) base (fun k => k ≠ B ∧ k ≠ D) (.slice A13 (Hs ++ O).length c13) (Hs ++ O) := Kd.R_below hR (below_alloc (Below.refl _ _) _)
  generalize w13.alloc (nbO (.slice A13 (Hs.length + O.length) c13) (Hs.length + O.length)) = w14 at hbuf14 hn14 hlo13 hRa ⊢
  refine leaves_cons (f := 105) (args := #[.agg #[.pointer (some ⟨B, 0, none⟩)]]) (by simp) (by kernel_rfl) ?_
  refine (prel_calls B D _ q G _ _ hbuf14 HBU.out.2.1).mono ?_
  rintro e u' w'' ⟨rfl, rfl, hk, hb⟩
  have hRb : Kd.R (Kd.int .u8) 5 w'' base (fun k => k ≠ B ∧ k ≠ D) (.slice A13 (Hs ++ O).length c13) (Hs ++ O) := Kd.R_step hRa (fun k hok hlt => hk.2 k hlt (by omega))
  obtain ⟨_, hc, hC⟩ := Kd.R_reads' hRb
  have h0 : 0 < (Hs ++ O).length := by have := HHL.out.2.2.2.2.2.2; simp; omega
  obtain ⟨ad, rfl, _⟩ := hC.2.2 h0
  obtain ⟨m1, m2, m3, m4⟩ := HM.out
  refine ⟨.tuple #[.iface 89 (.agg #[.pointer (some ⟨w13.heap.size, 0, none⟩)]), .nilIface], ?_, w13.heap.size, ad, c13, rfl, ?_, hc, by omega, hC, hlo13.trans (hb.mono (by omega))⟩
  · simp [results, Try.results21, go_sem]
  · rw [List.length_append]
    refine (hk.2 _ (blk_lt hn14) ?_).trans hn14
    exact fun h => h.elim (fun e => by have := blk_lt hB13; omega) (fun e => by have := blk_lt hD13; omega)
end Go.Proofs.Ytdekingogcmboaa.Q

/- All that waits is flushed, 32 bits (printed out of that of 64 bits). -/
namespace Go.Proofs.Ytdekingogcmboaa.Q
open Go.RowKit Go.Proofs.YtdekingogcmboaaW.PrintWords Go.Proofs.YtdekingogcmboaaW.PrintLast Go.Proofs.YtdekingogcmboaaW.PrintMore
set_option linter.unusedVariables false
set_option linter.unusedSimpArgs false
set_option maxHeartbeats 1000000 in
set_option maxRecDepth 100000 in
theorem fb32_none {w : World} {lo E S W tot : Nat} {first cur : Int} {out : List Int} (h : En 90 w lo E S W tot first cur [] out) :
    Calls Try.prog 38 #[.pointer (some ⟨E, 0, none⟩)] w fun e w' => e = .returned (.tuple #[]) ∧ w' = w := by
  obtain ⟨dv, hE, hlo, hD, hS⟩ := h
  obtain ⟨A, c, rfl⟩ : ∃ A c, dv = .slice A 0 c := by
    obtain ⟨_, h⟩ := hD
    rcases h with ⟨h, _⟩ | ⟨g, cap, cur, h, _⟩
    · exact ⟨_, _, h⟩
    · exact ⟨_, _, h⟩
  have e10 : w.cell? ⟨E, 10, none⟩ = some (.slice A 0 c) := (blk_cell hE 10).trans rfl
  clear hE hD hS
  go_enter Try.func38, Try.ntmps38
  go_wp2
  refine bodyPost_ret (results_none rfl _ _ _) rfl ?_
  exact ⟨rfl, rfl⟩
theorem fb32_any {w : World} {lo E S W tot : Nat} {first cur : Int} {ds out : List Int} (h : En 90 w lo E S W tot first cur ds out) (hf : Fit ds) (hl : ds.length ≤ 128) (ho : out.length ≤ 200000) :
    Calls Try.prog 38 #[.pointer (some ⟨E, 0, none⟩)] w fun e w' => e = .returned (.tuple #[]) ∧ En 90 w' lo E S W tot first cur [] (out ++ tb ds) ∧ Below lo w w' := by
  by_cases c : ds = []
  · subst c
    refine (fb32_none h).mono ?_
    rintro e w' ⟨he, rfl⟩
    exact ⟨he, by simpa [tb] using h, Below.refl _ _⟩
  · unfold tb
    rw [if_neg c]
    exact fb32_calls h hf hl c ho
set_option maxHeartbeats 8000000 in
set_option maxRecDepth 100000 in
theorem fv32_calls {w : World} {lo E S W tot : Nat} {first cur : Int} {ds out : List Int} (h : En 90 w lo E S W tot first cur ds out) (hf : Fit ds) (hl : ds.length ≤ 128) (ho : out.length ≤ 20000) (ht : tot ≤ 2000) (hfi : -9223372036854775808 ≤ first ∧ first ≤ 9223372036854775807) :
    Calls Try.prog 24 #[.pointer (some ⟨E, 0, none⟩)] w fun e w' => ∃ (BB : Nat) (a : Addr) (c : Nat), e = .returned (.tuple #[.iface 89 (.agg #[.pointer (some ⟨BB, 0, none⟩)]), .nilIface]) ∧
      w'.heap[BB]? = some (nbO (.slice (some a) (hdr tot first ++ (out ++ tb ds)).length c) (hdr tot first ++ (out ++ tb ds)).length) ∧ (hdr tot first ++ (out ++ tb ds)).length ≤ c ∧ 0 < c ∧ Kd.C (Kd.int .u8) w' (some a) (hdr tot first ++ (out ++ tb ds)).length (hdr tot first ++ (out ++ tb ds)) ∧ Below lo w w' := by
  have htl := tb_len ds hf
  have HFB := Aside0.mk (fb32_any h hf hl (by omega))
  obtain ⟨dv, hE, hlo, hD, hS⟩ := h
  have hol : (out ++ tb ds).length ≤ 22000 := by simp; omega
  generalize out ++ tb ds = O at HFB hol ⊢
  have e3 : w.cell? ⟨E, 3, none⟩ = some (.pointer (some ⟨W, 0, none⟩)) := (blk_cell hE 3).trans rfl
  have HOL := Aside0.mk hol
  have hhl := hdr_len tot first ht hfi
  generalize hHs : hdr tot first = Hs at hhl ⊢
  have HHL := Aside0.mk hhl
  have HHS := Aside0.mk hHs
  clear hhl hHs
  have HFI := Aside0.mk (And.intro ht hfi)
  have HLO := Aside0.mk hlo
  clear hE hlo hD hS htl hf hl ho ht hfi hol
  go_enter_defers Try.func24, Try.ntmps24
  go_upto_region 7 with (first | (go_at_call 38; go_loud (refine HFB.out.mono ?_; rintro e w1 ⟨rfl, ⟨dv1, hE1, _, hD1, pre, N, bits, hst, hb0, hout⟩, b1⟩; have y3 : w1.cell? ⟨E, 3, none⟩ = some (.pointer (some ⟨W, 0, none⟩)) := (blk_cell hE1 3).trans rfl; have hsl := Sm.len hb0 hout; have HST := Aside0.mk (st_flush hst (by have := HOL.out; omega)); have HX := Aside0.mk (show pre ++ toB ((bits + 7) / 8) N = O by rw [← hout]; congr 2; omega); have HE1 := Aside0.mk (And.intro hE1 b1); clear hE1 hD1 hst hb0 hout b1 hsl)) | (go_at_call 31; with_reducible refine HST.out.mono ?_; rintro e w2 ⟨rfl, s2, f2⟩; have HS2 := Aside0.mk (And.intro s2 f2); clear s2 f2))
  obtain ⟨hE1, b1⟩ := HE1.out
  obtain ⟨s2, f2⟩ := HS2.out
  rw [HX.out] at s2
  have hE2 := f2.keep E 90 _ hE1 (by decide) (by decide) (by decide) (by decide)
  have b2 := b1.trans f2.below
  obtain ⟨_, rs2, hbs⟩ := s2
  have ht2 : thr O 0 0 = O := by simp [thr, toB]
  rw [ht2] at hbs
  have hbs2 : Bs w2 lo W S O O.length 0 0 rs2 := hbs
  obtain ⟨hhd, hbh⟩ := head_new w2 _ rfl
  have HBS := Aside0.mk (And.intro hbs2 (And.intro hE2 b2))
  have HW1 := Aside0.mk (newwab_calls (some ⟨w2.heap.size, 0, none⟩) 32 32 (w2.alloc (zeros 32)))
  have HW2 := Aside0.mk (newbwi_calls (.iface 105 (.pointer (some ⟨w2.heap.size + 1, 0, none⟩))) rfl ((w2.alloc (zeros 32)).alloc (.cells #[.slice (some ⟨w2.heap.size, 0, none⟩) 32 32] 107)) _ rfl)
  have hs1 : (w2.alloc (zeros 32)).heap.size = w2.heap.size + 1 := by simp
  have hs2 : ((w2.alloc (zeros 32)).alloc (.cells #[.slice (some ⟨w2.heap.size, 0, none⟩) 32 32] 107)).heap.size = w2.heap.size + 2 := by simp
  rw [hs1] at HW1
  rw [hs2] at HW2
  have hmk : ∀ W : World, (Instr.makeSlice 27 (.int .i64 32) (.int .i64 32)).run Try.prog W = .ok (.slice (some ⟨W.heap.size, 0, none⟩) 32 32) (W.alloc (zeros 32)) := make_bytes 32 (by omega)
  generalize ((w2.alloc (zeros 32)).alloc (.cells #[.slice (some ⟨w2.heap.size, 0, none⟩) 32 32] 107)).alloc (.cells (bwL (.iface 105 (.pointer (some ⟨w2.heap.size + 1, 0, none⟩))) 0 0 0 (List.replicate 18 0)).toArray 95) = w3 at hhd hbh HW2
  have HH := Aside0.mk (And.intro hhd hbh)
  clear hE1 b1 f2 hE2 b2 hbs hbs2 hhd hbh HX HE1 HS2 HFB hs1 hs2 ht2
  go_upto_region 9 with (first | (go_at_call 32; with_reducible refine HW1.out.mono ?_; rintro e wx ⟨rfl, hwx⟩; subst wx) | (go_at_call 28; with_reducible refine HW2.out.mono ?_; rintro e wx ⟨rfl, hwx⟩; subst wx))
  generalize hbase : w2.heap.size = base at HH ⊢
  obtain ⟨hhd, hbh⟩ := HH.out
  obtain ⟨hbs2, hE2, hb2⟩ := HBS.out
  have hEb : E < base := by rw [← hbase]; exact blk_lt hE2
  have HEC := Aside0.mk (fun w' (b : Below base w2 w') => (b.block E hEb).trans hE2)
  have k3 := HEC.out w3 hbh
  have y7 : w3.cell? ⟨E, 7, none⟩ = some (.int .u64 128) := (blk_cell k3 7).trans rfl
  obtain ⟨hl1, hl2, hl3, hl4, hl5, hl6, hl7⟩ := HHL.out
  have HV1 := Aside0.mk (show Calls Try.prog 33 #[_, .int .u64 128] w3 _ from hvlq_calls 128 hhd (by omega) (by rw [hl1]; simp))
  have HB3 := Aside0.mk hbh
  have HBA := Aside0.mk (And.intro hbase hEb)
  clear hhd hbh hbs2 hE2 hb2 hEb k3 HH hbase
  go_upto_region 10 with (first | (go_at_call 33; with_reducible refine HV1.out.mono ?_; rintro e w4 ⟨rfl, h4, b4⟩; have b4' := HB3.out.trans b4; have k4 := HEC.out w4 b4'; have y9 : w4.cell? ⟨E, 9, none⟩ = some (.int .u64 4) := (blk_cell k4 9).trans rfl; have HV2 := Aside0.mk (show Calls Try.prog 33 #[_, .int .u64 4] w4 _ from hvlq_calls 4 h4 (by omega) (by rw [hl2]; simp [hl1])); have HB4 := Aside0.mk b4'; clear h4 b4 b4' k4))
  clear y7
  go_upto_region 11 with (first | (go_at_call 33; with_reducible refine HV2.out.mono ?_; rintro e w5 ⟨rfl, h5, b5⟩; have b5' := HB4.out.trans b5; have k5 := HEC.out w5 b5'; have y4 : w5.cell? ⟨E, 4, none⟩ = some (.int .u64 (tot : Int)) := (blk_cell k5 4).trans rfl; have HV3 := Aside0.mk (hvlq_calls tot h5 (by have := HFI.out.1; omega) (by simp [hl1, hl2]; omega)); have HB5 := Aside0.mk b5'; clear h5 b5 b5' k5))
  clear y9
  go_upto_region 12 with (first | (go_at_call 33; with_reducible refine HV3.out.mono ?_; rintro e w6 ⟨rfl, h6, b6⟩; have b6' := HB5.out.trans b6; have k6 := HEC.out w6 b6'; have y5 : w6.cell? ⟨E, 5, none⟩ = some (.int .i64 first) := (blk_cell k6 5).trans rfl; have HV4 := Aside0.mk (hzig_calls first h6 HFI.out.2.1 HFI.out.2.2 (by simp [hl1, hl2]; omega)); have HB6 := Aside0.mk b6'; clear h6 b6 b6' k6))
  clear y4
  go_upto_region 15 with (first | (go_at_call 34; go_loud (refine HV4.out.mono ?_; rintro e w7 ⟨rfl, h7, b7⟩; obtain ⟨rs7, u1, u2, u3, u4, u5, u6, u7⟩ := h7; rw [show [] ++ leb 128 ++ leb 4 ++ leb tot ++ leb (zz first) = Hs by rw [← HHS.out]; simp [hdr]] at u1 u3; have HFN := Aside0.mk (flushn_calls u1); have HWR := Aside0.mk (written_calls u1 (by omega) rfl); have hsl := sliceTo_b ⟨base, 0, none⟩ Hs.length 32 32 (by omega) (by omega); have b7' := HB6.out.trans b7; have H7 := Aside0.mk (And.intro u3 (And.intro u7 b7')); clear u1 u2 u3 u4 u5 u6 u7 b7 b7')) | (go_at_call 31; with_reducible refine HFN.out.mono ?_; rintro e wx ⟨rfl, hwx⟩; subst wx) | (go_at_call 35; refine HWR.out.mono ?_; rintro e w8 ⟨rfl, m8, rfl⟩))
  clear y5 hl1 hl2 hl3 hl4 hl5 hl6 hl7
  obtain ⟨r7, l7, b7⟩ := H7.out
  obtain ⟨hbase, hEb⟩ := HBA.out
  obtain ⟨hbs2, hE2, hb2⟩ := HBS.out
  have b8 : Below base w2 (w7.drewN m8) := pw_below_drewN b7 m8
  have k8 := HEC.out (w7.drewN m8) b8
  have bs8 := hbs2.keepAll (w' := w7.drewN m8) (fun g hg => b8.block g (by rw [← hbase]; exact hg))
  have r8 : Row (w7.drewN m8) base _ := r7
  generalize w7.drewN m8 = w8 at b8 k8 bs8 r8 ⊢
  have f4 := blk_frozen k8 4
  have y4 : w8.cell? ⟨E, 4, none⟩ = some (.int .u64 (tot : Int)) := (blk_cell k8 4).trans rfl
  have k9 := blk_set k8 4 (.int .u64 0)
  change (w8.setCell ⟨E, 4, none⟩ (.int .u64 0)).heap[E]? = some (.cells (encL S W 0 first cur dv1) 90 (0, 0)) at k9
  have bs9 := bs8.setE k8 (by decide) (by decide) (by decide) (by decide) 4 (.int .u64 0)
  have r9 := blk_far r8 (p := ⟨E, 4, none⟩) (by show base ≠ E; omega) (.int .u64 0)
  have s9 : base < (w8.setCell ⟨E, 4, none⟩ (.int .u64 0)).heap.size := by simp; exact blk_lt r8
  have b9 : Below lo w (w8.setCell ⟨E, 4, none⟩ (.int .u64 0)) := Below.setCell (p := ⟨E, 4, none⟩) (hb2.trans (b8.mono (by have := HLO.out; omega))) HLO.out _
  have X9 := Aside0.mk (And.intro k9 (And.intro bs9 (And.intro r9 (And.intro b9 s9))))
  clear k8 bs8 r8 k9 bs9 r9 b9 s9 b8 hbs2 hE2 hb2 r7 b7 hbase
  go_upto_region 16 with (fail)
  obtain ⟨k9, bs9, r9, b9, s9⟩ := X9.out
  generalize w8.setCell ⟨E, 4, none⟩ (.int .u64 0) = w9 at k9 bs9 r9 b9 s9 ⊢
  clear X9 f4 y4
  have y3 : w9.cell? ⟨E, 3, none⟩ = some (.pointer (some ⟨W, 0, none⟩)) := (blk_cell k9 3).trans rfl
  have y1 : w9.cell? ⟨E, 1, none⟩ = some (.pointer (some ⟨S, 0, none⟩)) := (blk_cell k9 1).trans rfl
  obtain ⟨B, D, z, q, G, hbw, hsn, m1, m2, m3, m4⟩ := bs9
  have HFI2 := Aside0.mk (finish_calls S B D _ q G w9 hsn)
  have X9 := Aside0.mk (And.intro k9 (And.intro hbw (And.intro hsn (And.intro r9 (And.intro b9 s9)))))
  have HM := Aside0.mk (And.intro m1 (And.intro m2 (And.intro m3 m4)))
  clear k9 hbw hsn r9 b9 s9 m1 m2 m3 m4
  go_upto_region 19 with (first | (go_at_call 36; refine HFI2.out.mono ?_; rintro e w10 ⟨rfl, hbuf, hk10, hb10⟩; have X10 := Aside0.mk (And.intro hbuf (And.intro hk10 hb10)); clear hbuf hk10 hb10))
  obtain ⟨hbuf, hk10, hb10⟩ := X10.out
  obtain ⟨k9, hbw, hsn, r9, b9, s9⟩ := X9.out
  have hnS : ∀ g t (cs : Array Value), w9.heap[g]? = some (.cells cs t (0, 0)) → t ≠ 110 → t ≠ 117 → ¬ (g = S ∨ g = B) := fun g t cs e h1 h2 hg => hg.elim (blk_ne e hsn.s h1) (blk_ne e hsn.b.1 h2)
  have hj : Jn w10 E W S B D base lo q G 90 (encL S W 0 first cur dv1) O Hs z w := by
    refine ⟨(hk10.2 E (blk_lt k9) (hnS E 90 _ k9 (by decide) (by decide))).trans k9, ⟨rs2, hbw.kept hk10 (hnS W 95 _ hbw.1 (by decide) (by decide))⟩, hbuf, (hk10.2 base (blk_lt r9) (hnS base 5 _ r9 (by decide) (by decide))).trans r9, ?_, Nat.lt_of_lt_of_le s9 hk10.1⟩
    obtain ⟨m1, m2, m3, m4⟩ := HM.out
    exact b9.trans (hb10.mono (by omega))
  have y3 : w10.cell? ⟨E, 3, none⟩ = some (.pointer (some ⟨W, 0, none⟩)) := (blk_cell hj.e 3).trans rfl
  have hzl : (O ++ List.replicate z (0 : Int)).length = O.length + z := by simp
  have hDb : D ≠ base := fun e => by
    have h1 := hsn.b.2
    have h2 := r9
    unfold Row at h1 h2
    rw [e, h2] at h1
    have h3 := congrArg (fun o => match o with | some (Obj.cells c _ _) => c.size | _ => 0) h1
    have h4 := hsn.lo
    have h5 := HHL.out.2.2.2.2.2.1
    simp at h3 h4
    omega
  have HDB := Aside0.mk hDb
  clear hDb
  have hsl2 := sliceTo_b ⟨D, 0, none⟩ O.length (O.length + z) (O.length + z) (by omega) (by have := hsn.lo; omega)
  have HPB := Aside0.mk (pbuf_calls B D _ q G (w10.drewN 1) ⟨hbuf.1, hbuf.2⟩)
  rw [hzl] at HPB
  have HJ := Aside0.mk hj
  have HBU := Aside0.mk (And.intro hbuf (And.intro hsn.hi hsn.lo))
  clear hzl hbuf hk10 hb10 k9 hbw hsn r9 b9 s9 hnS hj
  go_region_held3 (fun w' => w'.cell? ⟨E, 3, none⟩ = some (.pointer (some ⟨W, 0, none⟩))) (go_keep) (first | (go_at_call 102; go_loud (refine HPB.out.mono ?_; rintro e w11 ⟨rfl, hw11⟩; have hj11 := HJ.out.move (w' := w11) (fun g hg => by rw [hw11]; exact (below_alloc (Below.refl _ (w10.drewN 1)) _).block g hg) (by rw [hw11]; exact (pw_below_drewN (Below.refl _ _) 1).trans ((below_alloc (Below.refl _ _) _).mono (by have := HLO.out; have := blk_lt HJ.out.e; show lo ≤ w10.heap.size; omega))); obtain ⟨rs11, hbw11⟩ := hj11.bw; have HWR2 := Aside0.mk (written_calls hbw11 (by have := HOL.out; omega) rfl); have y3' : w11.cell? ⟨E, 3, none⟩ = some (.pointer (some ⟨W, 0, none⟩)) := (blk_cell hj11.e 3).trans rfl; have HJ11 := Aside0.mk hj11; clear hj11 hbw11 hw11)) | (go_at_call 35; go_loud (refine HWR2.out.mono ?_; rintro e w12 ⟨rfl, m12, rfl⟩; have hj12 := HJ11.out.move (w' := w11.drewN m12) (fun g hg => rfl) (pw_below_drewN (Below.refl _ _) _); have HJ12 := Aside0.mk hj12; clear hj12)) | (refine Kd.R_append_rows_step (Kd.int .u8) (w0 := w11.drewN m12) base (by rfl) (.tmp 78) (.tmp 86) 27 5 (.int .u8 0) 1 rfl Try.underlying27 info5 rfl (by decide) (by omega) (.slice (some ⟨base, 0, none⟩) Hs.length 32) Hs O (some ⟨D, 0, none⟩) O.length (O.length + z) (fun _ => True) (fun _ => False) rfl rfl (HJ12.out.R (by have := HHL.out; omega)) (HJ12.out.C (by have := HOL.out; omega)) (fun _ _ h => h) (fun _ h => h.elim) (fun _ _ => trivial) (Below.refl _ _) (Nat.le_of_lt HJ12.out.s) (by have := HHL.out; have := HOL.out; omega) ?_; intro v13 w13 ho hb hg hat; obtain ⟨A13, c13, rfl⟩ := Kd.R_slice ho; have y3'' : w13.cell? ⟨E, 3, none⟩ = some (.pointer (some ⟨W, 0, none⟩)) := (World.grownBy.cell hg (blk_cell HJ12.out.e 3) (by simp [Value.ownBlock]; have := HBA.out.2; omega)).trans rfl; have HP13 := Aside0.mk (And.intro ho (And.intro hb (And.intro hg hat))); clear ho hb hg hat))
  have HNB := Aside0.mk (nbb_calls A13 (Hs ++ O).length c13 w13)
  rw [List.length_append] at HNB
  go_wp2_with (first | (go_at_call 37; refine HNB.out.mono ?_; rintro e w14 ⟨rfl, hw14⟩; subst w14))
  obtain ⟨ho13, hb13, hg13, hat13⟩ := HP13.out
  have hj := HJ12.out
  have hBb : B ≠ base := blk_ne hj.d.1 hj.x (by decide)
  have hD13 : w13.heap[D]? = _ := (hg13.block D (blk_lt hj.d.2) (by simp [Value.ownBlock]; exact HDB.out)).trans hj.d.2
  have hB13 : w13.heap[B]? = _ := (hg13.block B (blk_lt hj.d.1) (by simp [Value.ownBlock]; exact hBb)).trans hj.d.1
  have hbuf14 : IsBuf (w13.alloc (nbO (.slice A13 (Hs.length + O.length) c13) (Hs.length + O.length))) B D (O ++ List.replicate z 0) q G := ⟨blk_alloc hB13 _, blk_alloc hD13 _⟩
  have hn14 := blk_new w13 (nbO (.slice A13 (Hs.length + O.length) c13) (Hs.length + O.length))
  have hown := Kd.own_of_R ho13
  have hR : Kd.R (Kd.int .u8) 5 w13 base (fun k => k ≠ B ∧ k ≠ D) (.slice A13 (Hs ++ O).length c13) (Hs ++ O) := by
    refine Kd.R_of_own hown (fun k hk => ?_)
    obtain ⟨cells, hc⟩ := own_typed hown k hk
    refine ⟨fun e => by rw [e, hB13] at hc; simp [bufO] at hc, ?_⟩
    rcases hat13 with h | ⟨b, h, hle⟩
    · rw [h] at hk
      simp [Value.ownBlock] at hk
      intro e; exact HDB.out (e.symm.trans hk.symm)
    · rw [h] at hk
      injection hk with hk
      have := blk_lt hj.d.2
      intro e; omega
  have hlo13 : Below lo w (w13.alloc (nbO (.slice A13 (Hs.length + O.length) c13) (Hs.length + O.length))) := by
    have hbl : lo ≤ base := by have := HLO.out; have := HBA.out.2; omega
    have hs := hj.s
    have hs13 := hg13.size
    exact (hj.b.trans (hb13.mono hbl)).trans ((below_alloc (Below.refl _ _) _).mono (by omega))
  have hRa : Kd.R (Kd.int .u8) 5 (w13.alloc (nbO (.slice A13 (Hs.length + O.length) c13) (Hs.length + O.length))) base (fun k => k ≠ B ∧ k ≠ D) (.slice A13 (Hs ++ O).length c13) (Hs ++ O) := Kd.R_below hR (below_alloc (Below.refl _ _) _)
  generalize w13.alloc (nbO (.slice A13 (Hs.length + O.length) c13) (Hs.length + O.length)) = w14 at hbuf14 hn14 hlo13 hRa ⊢
  refine leaves_cons (f := 105) (args := #[.agg #[.pointer (some ⟨B, 0, none⟩)]]) (by simp) (by kernel_rfl) ?_
  refine (prel_calls B D _ q G _ _ hbuf14 HBU.out.2.1).mono ?_
  rintro e u' w'' ⟨rfl, rfl, hk, hb⟩
  have hRb : Kd.R (Kd.int .u8) 5 w'' base (fun k => k ≠ B ∧ k ≠ D) (.slice A13 (Hs ++ O).length c13) (Hs ++ O) := Kd.R_step hRa (fun k hok hlt => hk.2 k hlt (by omega))
  obtain ⟨_, hc, hC⟩ := Kd.R_reads' hRb
  have h0 : 0 < (Hs ++ O).length := by have := HHL.out.2.2.2.2.2.2; simp; omega
  obtain ⟨ad, rfl, _⟩ := hC.2.2 h0
  obtain ⟨m1, m2, m3, m4⟩ := HM.out
  refine ⟨.tuple #[.iface 89 (.agg #[.pointer (some ⟨w13.heap.size, 0, none⟩)]), .nilIface], ?_, w13.heap.size, ad, c13, rfl, ?_, hc, by omega, hC, hlo13.trans (hb.mono (by omega))⟩
  · simp [results, Try.results24, go_sem]
  · rw [List.length_append]
    refine (hk.2 _ (blk_lt hn14) ?_).trans hn14
    exact fun h => h.elim (fun e => by have := blk_lt hB13; omega) (fun e => by have := blk_lt hD13; omega)
end Go.Proofs.Ytdekingogcmboaa.Q

/- Numbers in parts, put one part after the other. -/
namespace Go.Proofs.Ytdekingogcmboaa.Q
open Go.RowKit Go.Proofs.YtdekingogcmboaaW.PrintWords Go.Proofs.YtdekingogcmboaaW.PrintLast Go.Proofs.YtdekingogcmboaaW.PrintMore
set_option linter.unusedVariables false
set_option linter.unusedSimpArgs false
theorem noBytes_idle (pl pok : Addr) (w : World) :
    CallsD Try.prog 17 #[.pointer (some pl), .pointer (some pok)] .returning w fun e u' w' => e = .returned (.tuple #[]) ∧ u' = .returning ∧ w' = w := by
  refine callsD_of_wpS Try.func17 rfl fun c₀ cs hu => ?_
  apply wpS_seq
  apply wpS_region
  simp [wpOpsS, go_sem, recoverD, hu, Try.ntmps17, Exit.thenS]
  refine wpS_cond (t := false) (by simp [Act.eval, Array.replicate]) ?_
  simp only [Bool.false_eq_true, if_false]
  refine wpS_of_wp (wp_skip ?_)
  cases c₀
  simp_all [bodyPostS, results, Try.results17]
theorem at_part {k : IntKind} {t : TypeId} {w : World} {A : Option Addr} {n : Nat} {xs : List (List Int)} (h : Kd.C (Kd.slice t (Kd.int k)) w A n xs) (i : Nat) (h1 : i < n) : ∃ ad A0 c0, A = some ad ∧ w.cell? (ad.add i) = some (.slice A0 (xs.getD i []).length c0) ∧ (xs.getD i []).length ≤ c0 ∧ (Kd.int k).C w A0 (xs.getD i []).length (xs.getD i []) := by
  obtain ⟨ad, c, e, _, hK, hc0⟩ := Kd.C_get h ([] : List Int) (i : Int) (by omega) (by omega)
  have hc : ∀ j u, c[j]? = some u → w.cell? (ad.add ((i : Int).toNat * 1 + j)) = some u := hc0
  obtain ⟨A0, c0, rfl, l0, g0⟩ := hK
  exact ⟨ad, A0, c0, e, by have hq := hc 0 _ rfl; rwa [Nat.mul_one, Nat.add_zero, Int.toNat_natCast] at hq, l0, g0⟩
/-- An encoder that some numbers were put into. -/
def Stt (T : TypeId) (wr : Int → Int) (w : World) (lo E S : Nat) (l : List Int) : Prop :=
  lo ≤ E ∧ ((l = [] ∧ w.heap[E]? = some (.cells (enc0 S) T (0, 0)) ∧ Sk w lo S) ∨
    ∃ first rest W ds out, l = first :: rest ∧ En T w lo E S W (rest.length + 1) first (lst first rest) ds out ∧ Pt wr first rest ds out)
theorem fit_bounds {l : List Int} (h : Fit l) (x : Int) (hx : x ∈ l) : -9223372036854775808 ≤ x ∧ x ≤ 9223372036854775807 := h x hx
set_option maxHeartbeats 1000000 in
set_option maxRecDepth 100000 in
theorem put64_none (E c : Nat) (A : Option Addr) (w : World) : Calls Try.prog 19 #[.pointer (some ⟨E, 0, none⟩), .slice A 0 c] w fun e w' => e = .returned (.tuple #[]) ∧ w' = w := by
  go_enter Try.func19, Try.ntmps19
  go_wp2
  refine bodyPost_ret (results_none rfl _ _ _) rfl ?_
  exact ⟨rfl, rfl⟩
theorem put64_any {w : World} {lo E S c : Nat} {l : List Int} (A : Option Addr) (xs : List Int) (h : Stt 75 wrap64 w lo E S l) (hr : ∀ W', Below lo w W' → Kd.C (Kd.int .i64) W' A xs.length xs) (hl : l.length + xs.length ≤ 2000) :
    Calls Try.prog 19 #[.pointer (some ⟨E, 0, none⟩), .slice A xs.length c] w fun e w' => e = .returned (.tuple #[]) ∧ Stt 75 wrap64 w' lo E S (l ++ xs) ∧ Below lo w w' := by
  by_cases hx : xs = []
  · subst hx
    refine (put64_none E c A w).mono ?_
    rintro e w' ⟨he, rfl⟩
    exact ⟨he, by simpa using h, Below.refl _ _⟩
  · have hn : 0 < xs.length := List.length_pos_iff.2 hx
    obtain ⟨ad, rfl, _⟩ := (hr w (Below.refl _ _)).2.2 hn
    have hr2 : ∀ W', Below lo w W' → ∀ i, i < xs.length → W'.cell? (ad.add i) = some (.int .i64 (xs.getD i 0)) := fun W' hb i hi => by
      obtain ⟨ad2, e, hc⟩ := Kd.at_int (hr W' hb) (i : Int) (by omega) (by omega)
      injection e with e
      subst e
      rw [Int.toNat_natCast] at hc
      rw [hc]
      rfl
    obtain ⟨hlo, h⟩ := h
    rcases h with ⟨rfl, hE, hS⟩ | ⟨first, rest, W, ds, out, rfl, hen, hpt⟩
    · obtain ⟨x, ys, rfl⟩ : ∃ x ys, xs = x :: ys := by
        cases xs with
        | nil => exact absurd rfl hx
        | cons x ys => exact ⟨x, ys, rfl⟩
      refine (put64_first (c := c) ad (x :: ys) hE hlo hS hr2 hn (by simpa using hl) x rfl).mono ?_
      rintro e w' ⟨he, Wb, ds', out', h1, h2, h3⟩
      exact ⟨he, ⟨hlo, .inr ⟨x, ys, Wb, ds', out', rfl, h1, h2⟩⟩, h3⟩
    · refine (put64_more (c := c) ad xs hen hpt hr2 hn (by omega) (by simp at hl; omega) (by simp at hl; omega)).mono ?_
      rintro e w' ⟨he, ds', out', h1, h2, h3⟩
      refine ⟨he, ⟨hlo, .inr ⟨first, rest ++ xs, W, ds', out', rfl, ?_, h2⟩⟩, h3⟩
      rw [List.length_append, show rest.length + xs.length + 1 = rest.length + 1 + xs.length by omega]
      exact h1
/-- Differences in blocks of 128. -/
def encB : Nat → List Int → List Int
  | 0, _ => []
  | k + 1, ds => if ds = [] then [] else block (ds.take 128) ++ encB k (ds.drop 128)
theorem encB_is (bs : List (List Int)) (ds : List Int) (k : Nat) (h : ∀ b ∈ bs, b.length = 128) (hd : ds.length < 128) (hk : bs.length < k) : encB k (bs.flatten ++ ds) = bs.flatMap block ++ tb ds := by
  induction bs generalizing k with
  | nil =>
    obtain ⟨k, rfl⟩ : ∃ m, k = m + 1 := ⟨k - 1, by simp at hk; omega⟩
    simp only [List.flatten_nil, List.nil_append, List.flatMap_nil, encB, tb]
    by_cases c : ds = []
    · rw [if_pos c, if_pos c]
    · rw [if_neg c, if_neg c, List.take_of_length_le (by omega), List.drop_eq_nil_of_le (by omega)]
      cases k <;> simp [encB]
  | cons b bs ih =>
    obtain ⟨k, rfl⟩ : ∃ m, k = m + 1 := ⟨k - 1, by simp at hk; omega⟩
    have hb := h b List.mem_cons_self
    have hne : ¬ ((b :: bs).flatten ++ ds = []) := fun e => by
      have := congrArg List.length e
      simp [hb] at this
    have e1 : ((b :: bs).flatten ++ ds).take 128 = b := by
      rw [List.flatten_cons, List.append_assoc, List.take_append_of_le_length (by omega), List.take_of_length_le (by omega)]
    have e2 : ((b :: bs).flatten ++ ds).drop 128 = bs.flatten ++ ds := by
      rw [List.flatten_cons, List.append_assoc, List.drop_append, List.drop_eq_nil_of_le (by omega), hb]
      simp
    simp only [encB]
    rw [if_neg hne, e1, e2, ih k (fun c hc => h c (List.mem_cons_of_mem _ hc)) (by simp at hk; omega), List.flatMap_cons, List.append_assoc]
/-- All that is written of numbers. -/
def encAll (wr : Int → Int) : List Int → List Int
  | [] => []
  | first :: rest => hdr (rest.length + 1) first ++ encB (rest.length + 1) (dif wr first rest)
theorem Pt.enc {wr : Int → Int} {first : Int} {rest ds out : List Int} (h : Pt wr first rest ds out) : out ++ tb ds = encB (rest.length + 1) (dif wr first rest) := by
  obtain ⟨bs, h1, h2, h3, h4⟩ := h
  have hlen := congrArg List.length h2
  rw [dif_len, List.length_append, flatten_len bs h1] at hlen
  rw [h2, encB_is bs ds _ h1 h4 (by omega), h3]
theorem flat_step (l0 : List (List Int)) (i : Nat) (h : i < l0.length) : (l0.take (i + 1)).flatten = (l0.take i).flatten ++ l0.getD i [] := by
  have e : l0.take (i + 1) = l0.take i ++ [l0[i]] := List.take_succ_eq_append_getElem h
  rw [e, List.flatten_append, List.getD_eq_getElem?_getD, List.getElem?_eq_getElem h]
  simp
theorem flat_le (l0 : List (List Int)) (i : Nat) : (l0.take i).flatten.length ≤ l0.flatten.length := by
  have e : l0.flatten = (l0.take i).flatten ++ (l0.drop i).flatten := by rw [← List.flatten_append, List.take_append_drop]
  rw [e, List.length_append]; omega
theorem part_in (l0 : List (List Int)) (i : Nat) (h : i < l0.length) : ∀ x ∈ l0.getD i [], x ∈ l0.flatten := fun x hx => by
  rw [List.getD_eq_getElem?_getD, List.getElem?_eq_getElem h] at hx
  exact List.mem_flatten.2 ⟨_, List.getElem_mem h, hx⟩
set_option maxHeartbeats 2000000 in
set_option maxRecDepth 100000 in
/-- The base of an encoder: its allocator, its writer. -/
theorem base_calls (w : World) : Calls Try.prog 27 #[.iface 51 (.agg #[])] w fun e w' => e = .returned (.agg #[.iface 51 (.agg #[]), .pointer (some ⟨w.heap.size + 1, 0, none⟩), .int .i64 0]) ∧
    Sk w' w.heap.size (w.heap.size + 1) ∧ Below w.heap.size w w' := by
  have hn := new_calls (w.alloc (.cells #[.nilIface, .pointer none, .int .i64 0] 70))
  have h0 := blk_new w (.cells #[.nilIface, .pointer none, .int .i64 0] 70)
  have hb0 : Below w.heap.size w (w.alloc (.cells #[.nilIface, .pointer none, .int .i64 0] 70)) := below_alloc (Below.refl _ _) _
  have hsz : (w.alloc (.cells #[.nilIface, .pointer none, .int .i64 0] 70)).heap.size = w.heap.size + 1 := by simp
  have H0 := Aside0.mk h0
  have HB0 := Aside0.mk hb0
  have HSZ := Aside0.mk hsz
  rw [hsz] at hn
  have HN := Aside0.mk hn
  clear hn h0 hb0 hsz
  go_enter Try.func27, Try.ntmps27
  go_wp2_with (first | (go_at_call 39; go_loud (refine HN.out.mono ?_; rintro e w1 ⟨rfl, B, D, l, G, g1, g2, g3, ⟨zk, rfl⟩, g4⟩; have hh := (g4.block w.heap.size (Nat.lt_succ_self _)).trans H0.out; have c0 : w1.cell? ⟨w.heap.size, 0, none⟩ = some .nilIface := (blk_cell hh 0).trans rfl; have c1 : w1.cell? ⟨w.heap.size, 1, none⟩ = some (.pointer none) := (blk_cell hh 1).trans rfl; have c2 : w1.cell? ⟨w.heap.size, 2, none⟩ = some (.int .i64 0) := (blk_cell hh 2).trans rfl; have z0 := blk_frozen hh 0; have z1 := blk_frozen hh 1; have z2 := blk_frozen hh 2; have HH := Aside0.mk hh; have G1 := Aside0.mk (And.intro g1 g2); have G3 := Aside0.mk g3; have G4 := Aside0.mk g4; clear g1 g2 g3 g4 hh)))
  have f := blk_set (blk_set (blk_set HH.out 0 (.iface 51 (.agg #[]))) 1 (.pointer (some ⟨w.heap.size + 1, 0, none⟩))) 2 (.int .i64 0)
  have gb : Below w.heap.size w (((w1.setCell ⟨w.heap.size, 0, none⟩ (.iface 51 (.agg #[]))).setCell ⟨w.heap.size, 1, none⟩ (.pointer (some ⟨w.heap.size + 1, 0, none⟩))).setCell ⟨w.heap.size, 2, none⟩ (.int .i64 0)) :=
    below_set (below_set (below_set (HB0.out.trans (G4.out.mono (Nat.le_succ _))) (Nat.le_refl _)) (Nat.le_refl _)) (Nat.le_refl _)
  obtain ⟨b1, b2⟩ := G1.out
  have s0 : Sk w1 w.heap.size (w.heap.size + 1) := ⟨B, D, zk, 0, G, by simpa using G3.out, by omega, by omega, by omega⟩
  have s1 := s0.setE HH.out (by decide) (by decide) (by decide) 0 (.iface 51 (.agg #[]))
  have s2 := s1.setE (blk_set HH.out 0 (.iface 51 (.agg #[]))) (by decide) (by decide) (by decide) 1 (.pointer (some ⟨w.heap.size + 1, 0, none⟩))
  have s3 := s2.setE (blk_set (blk_set HH.out 0 (.iface 51 (.agg #[]))) 1 (.pointer (some ⟨w.heap.size + 1, 0, none⟩))) (by decide) (by decide) (by decide) 2 (.int .i64 0)
  generalize ((w1.setCell ⟨w.heap.size, 0, none⟩ (.iface 51 (.agg #[]))).setCell ⟨w.heap.size, 1, none⟩ (.pointer (some ⟨w.heap.size + 1, 0, none⟩))).setCell ⟨w.heap.size, 2, none⟩ (.int .i64 0) = W at f gb s3 ⊢
  have y0 : W.cell? ⟨w.heap.size, 0, none⟩ = some (.iface 51 (.agg #[])) := (blk_cell f 0).trans rfl
  have y1 : W.cell? ⟨w.heap.size, 1, none⟩ = some (.pointer (some ⟨w.heap.size + 1, 0, none⟩)) := (blk_cell f 1).trans rfl
  have y2 : W.cell? ⟨w.heap.size, 2, none⟩ = some (.int .i64 0) := (blk_cell f 2).trans rfl
  refine bodyPost_ret_by (v := .agg #[.iface 51 (.agg #[]), .pointer (some ⟨w.heap.size + 1, 0, none⟩), .int .i64 0]) ?_ rfl ⟨rfl, s3, gb⟩
  simp [results, Try.results27, go_sem, y0, y1, y2]
theorem Sk.alloc {w : World} {lo S : Nat} (h : Sk w lo S) (o : Obj) : Sk (w.alloc o) lo S := by
  obtain ⟨B, D, k, q, G, s, l⟩ := h
  exact ⟨B, D, k, q, G, ⟨blk_alloc s.s o, ⟨blk_alloc s.b.1 o, blk_alloc s.b.2 o⟩, s.le, s.lo, s.hi⟩, l⟩
set_option maxHeartbeats 2000000 in
set_option maxRecDepth 100000 in
theorem new64_calls (w : World) : Calls Try.prog 18 #[.iface 51 (.agg #[])] w fun e w' => ∃ E S : Nat, e = .returned (.pointer (some ⟨E, 0, none⟩)) ∧ Stt 75 wrap64 w' w.heap.size E S [] ∧ Below w.heap.size w w' := by
  have HB := Aside0.mk (base_calls w)
  go_enter Try.func18, Try.ntmps18
  go_wp2_with (first | (go_at_call 27; refine HB.out.mono ?_; rintro e w1 ⟨rfl, s1, b1⟩; have X1 := Aside0.mk (And.intro s1 b1); clear s1 b1))
  go_ret
  obtain ⟨s1, b1⟩ := X1.out
  exact ⟨w1.heap.size, w.heap.size + 1, rfl, ⟨b1.size, .inl ⟨rfl, blk_new w1 _, s1.alloc _⟩⟩, b1.trans ((below_alloc (Below.refl _ _) _).mono b1.size)⟩
end Go.Proofs.Ytdekingogcmboaa.Q
