/- The encoder of texts of one length: made, put into. -/
import Derived.Test.YtcfnniminikmfaaXa
namespace Go.Proofs.Ytcfnniminikmfaa.Q
open Go.RowKit Go.Proofs.YtcfnniminikmfaaW.PrintWords Go.Proofs.YtcfnniminikmfaaW.PrintLast Go.Proofs.YtcfnniminikmfaaW.PrintMore
set_option linter.unusedVariables false
set_option linter.unusedSimpArgs false
set_option maxHeartbeats 2000000 in
set_option maxRecDepth 100000 in
theorem unsafe_len (S B D : Nat) (l : List Int) (pos : Nat) (q : Int) (G : Nat) (a : Addr) (c : Nat) (cs : List Int) (w : World) (h : Snk w S B D l pos q G) (hn : pos + cs.length ≤ l.length) (h0 : 0 < cs.length) (hs : Src w a cs) :
    Calls Try.prog 65 #[.pointer (some ⟨S, 0, none⟩), .slice (some a) cs.length c] w fun e w' => e = .returned (.tuple #[.int .i64 (cs.length : Int), .nilIface]) ∧ ∃ l', Snk w' S B D l' (pos + cs.length) q G ∧ l'.length = l.length ∧ l'.take (pos + cs.length) = l.take pos ++ cs ∧ Kept w w' (fun k => k = S ∨ k = B ∨ k = D) ∧ Below (min S D) w w' := by
  have hlo := h.lo; have hhi := h.hi
  have s0 : w.cell? ⟨S, 0, none⟩ = some (.pointer (some ⟨B, 0, none⟩)) := (blk_cell h.s 0).trans rfl
  have s1 : w.cell? ⟨S, 1, none⟩ = some (.int .i64 (pos : Int)) := (blk_cell h.s 1).trans rfl
  have HQ := Aside0.mk (buf_calls B D l q G w.drew h.b)
  have hsl := sliceAt_b D pos l.length (by omega) hhi
  rw [if_neg (by omega)] at hsl
  obtain ⟨w3, hcp, e1, e2, e3, e4⟩ := copy_bytes w.drew D pos (l.length - pos) (l.length - pos) a cs.length c l cs h.b.2 (by show _ = min _ _; omega) hs hn
  obtain ⟨n1, n2, n3⟩ := bufne h
  have f1 := (e3 S n2).trans h.s
  have f2 := (e3 B n3).trans h.b.1
  have f3 : w3.cell? ⟨S, 1, none⟩ = some (.int .i64 (pos : Int)) := (blk_cell f1 1).trans rfl
  have f4 : w3.frozen? ⟨S, 1, none⟩ = false := blk_frozen f1 1
  have F1 := Aside0.mk f1
  have F2 := Aside0.mk f2
  have E1 := Aside0.mk e1
  have E2 := Aside0.mk e2
  have E3 := Aside0.mk e3
  have E4 := Aside0.mk e4
  have H := Aside0.mk h
  have NE := Aside0.mk (And.intro n1 (And.intro n2 n3))
  clear h hs f1 f2 e1 e2 e3 e4 n1 n2 n3
  go_enter Try.func65, Try.ntmps65
  go_wp2
  go_still_tail 11, (by kernel_rfl)
  still_call HQ.out
  repeat still_step
  try refine wpStill_nil ?_
  change wpList _ _ _ _ _ w.drew
  go_wp2
  go_ret2
  obtain ⟨n1, n2, n3⟩ := NE.out
  have hh := H.out
  have hle := hh.le
  have hlen : (l.take pos ++ cs ++ l.drop (pos + cs.length)).length = l.length := by simp; omega
  refine ⟨rfl, l.take pos ++ cs ++ l.drop (pos + cs.length), ⟨?_, ⟨?_, ?_⟩, by omega, by omega, by omega⟩, hlen, ?_, ?_, ?_⟩
  · have := blk_set F1.out 1 (.int .i64 ((pos : Int) + (cs.length : Int)))
    exact this
  · rw [hlen]
    exact blk_far F2.out (p := ⟨S, 1, none⟩) (by show B ≠ S; omega) _
  · exact blk_far E1.out (p := ⟨S, 1, none⟩) (by show D ≠ S; omega) _
  · rw [List.take_append_of_le_length (by simp; omega), List.take_of_length_le (by simp; omega)]
  · have k1 : Kept w w3 (fun k => k = S ∨ k = B ∨ k = D) := ⟨by rw [E2.out]; exact Nat.le_refl _, fun k hk hn => E3.out k (by omega)⟩
    exact k1.setCell (.inl (.inl rfl)) _
  · exact Below.setCell (p := ⟨S, 1, none⟩) (((below_drew (Below.refl D w)).trans E4.out).mono (Nat.min_le_right _ _)) (Nat.min_le_left _ _) _

/-- The length that an encoder of texts of one length has. -/
def EncW (w : World) (E wd : Nat) : Prop := w.cell? ⟨E, 2, none⟩ = some (.int .i64 (wd : Int))
theorem EncW.below {w w1 : World} {E wd : Nat} (h : EncW w E wd) (hb : Below w.heap.size w w1) : EncW w1 E wd := (hb.cell (World.block_lt_of_cell? w _ h)).trans h
theorem EncW.kept {w w1 : World} {E wd : Nat} {P : Nat → Prop} (h : EncW w E wd) (hk : Kept w w1 P) (hn : ¬ P E) : EncW w1 E wd := (cell_same (a := ⟨E, 2, none⟩) (hk.2 E (World.block_lt_of_cell? w _ h) hn)).trans h
theorem EncAt.kept {w w1 : World} {E S : Nat} {P : Nat → Prop} (h : EncAt w E S) (hk : Kept w w1 P) (hn : ¬ P E) : EncAt w1 E S := (cell_same (a := ⟨E, 1, none⟩) (hk.2 E (World.block_lt_of_cell? w _ h) hn)).trans h
set_option maxHeartbeats 2000000 in
set_option maxRecDepth 100000 in
theorem newX_calls (wd : Nat) (hwd : wd ≤ 1048576) (w : World) : Calls Try.prog 44 #[.int .i64 (wd : Int), .iface 48 (.agg #[])] w fun e w' => ∃ E S B D l G, e = .returned (.pointer (some ⟨E, 0, none⟩)) ∧ Made w w' E S B D l G ∧ EncW w' E wd := by
  have HB := Aside0.mk (base_calls w)
  go_enter Try.func44, Try.ntmps44
  go_wp2_with (first | (go_at_call 47; refine HB.out.mono ?_; rintro e w1 ⟨rfl, B, D, l, G, g1, g2, g3, g4⟩; have kn := blk_new w1 (.cells #[.iface 48 (.agg #[]), .pointer (some ⟨w.heap.size + 1, 0, none⟩), .int .i64 0, .nilIface, .slice none 0 0] 110); have zf : (w1.alloc (.cells #[.iface 48 (.agg #[]), .pointer (some ⟨w.heap.size + 1, 0, none⟩), .int .i64 0, .nilIface, .slice none 0 0] 110)).frozen? ⟨w1.heap.size, 2, none⟩ = false := blk_frozen kn 2; have G1 := Aside0.mk g1; have G2 := Aside0.mk g2; have G3 := Aside0.mk g3; have G4 := Aside0.mk g4; clear g1 g2 g3 g4 kn))
  go_ret
  exact ⟨_, w.heap.size + 1, B, D, l, G, rfl, made_of (cs := #[.iface 48 (.agg #[]), .pointer (some ⟨w.heap.size + 1, 0, none⟩), .int .i64 (wd : Int), .nilIface, .slice none 0 0]) (t := 110) G1.out G2.out G3.out G4.out rfl, (blk_cell (blk_new w1 _) 2).trans rfl⟩
def flX (xs : List ByteArray) (i : Nat) : List Int := (xs.take i).flatMap bytesOf
theorem flX_step (xs : List ByteArray) (i : Nat) (s : ByteArray) (h : xs[i]? = some s) : flX xs (i + 1) = flX xs i ++ bytesOf s := by
  unfold flX
  rw [List.take_add_one, h, List.flatMap_append]
  simp
theorem flatX_len (wd : Nat) (xs : List ByteArray) (h : ∀ x ∈ xs, x.size = wd) : (xs.flatMap bytesOf).length = wd * xs.length := by
  induction xs with
  | nil => simp
  | cons x r ih =>
    rw [List.flatMap_cons, List.length_append, bytesOf_length, h x (by simp), ih (fun y hy => h y (by simp [hy])), List.length_cons, Nat.mul_add, Nat.mul_one]; omega
set_option maxRecDepth 100000 in
theorem sliceTo_x (D n c : Nat) (hc : n ≤ c) (W : World) : (Instr.sliceAt 138 (.slice (some ⟨D, 0, none⟩) n c) none (some (.int .i64 (n : Int))) none).run Try.prog W = .ok (.slice (some ⟨D, 0, none⟩) n c) W := by
  rw [run_sliceAt_slice W 138 _ _ _ _ Try.underlying138, run_slice_h W 138 (some ⟨D, 0, none⟩) n c Try.underlying138 .i64 (n : Int) (by omega) (by omega)]
  have hsz : (sizeOf (Try.prog.elem 138)).run Try.prog W = .ok 1 W := by kernel_rfl
  rw [hsz]
  simp only [Result.andThen, sliced, Int.toNat_natCast]
  by_cases c0 : c = 0
  · rw [if_pos c0]; simp
  · rw [if_neg c0]; simp [Addr.add]
theorem eqnil_x (b n c : Nat) (W : World) : (binOp .eql 138 (.slice (some ⟨b, 0, none⟩) n c) (.slice none 0 0)).run Try.prog W = .ok (.bool false) W := by kernel_rfl
set_option maxHeartbeats 4000000 in
set_option maxRecDepth 100000 in
theorem putX_calls (E S B D : Nat) (l : List Int) (pos : Nat) (q : Int) (G : Nat) (A : Option Addr) (c : Nat) (ts : List (Nat × Nat × Nat)) (xs : List ByteArray) (base wd : Nat) (w : World) (hE : EncAt w E S) (hW : EncW w E wd) (hES : E ≠ S) (hEB : E ≠ B) (hED : E ≠ D) (h : Snk w S B D l pos q G) (hs : Stay w S B D A ts xs base) (hrm : Roomy ts) (hx : ∀ x ∈ xs, x.size = wd) (hDb : D < base) (hb : pos + (xs.flatMap bytesOf).length ≤ 4194304) (hn : ts.length ≤ 1048576) :
    Calls Try.prog 45 #[.pointer (some ⟨E, 0, none⟩), .slice A ts.length c] w fun e w' => e = .returned (.tuple #[]) ∧ Wrote w w' S B D l pos q G (xs.flatMap bytesOf) := by
  have hfl := flatX_len wd xs hx
  unfold EncW at hW
  by_cases c0 : wd = 0
  · subst c0
    have hz : xs.flatMap bytesOf = [] := List.eq_nil_of_length_eq_zero (by rw [hfl]; simp)
    rw [hz]
    have H := Aside0.mk h
    have hW0 : w.cell? ⟨E, 2, none⟩ = some (.int .i64 0) := hW
    clear h hs hW
    go_enter Try.func45, Try.ntmps45
    go_wp2
    (try simp only [Exit.inBlock, Exit.then])
    refine bodyPost_ret (results_none rfl _ _ _) rfl ?_
    have hh := H.out
    exact ⟨rfl, D, l, hh, by simp, .inl rfl, Kept.refl _ _, Below.refl _ _⟩
  · have hlen : ts.length = xs.length := (hs w (Kept.refl _ _)).2.1
    rw [hfl, ← hlen] at hb
    obtain ⟨N, hN⟩ : ∃ N, N = wd * ts.length := ⟨_, rfl⟩
    have hNi : (N : Int) = (ts.length : Int) * (wd : Int) := by rw [hN, Nat.mul_comm]; simp
    have hR := reserve_any S B D l pos q G N w h (by omega)
    rw [hNi] at hR
    have HR := Aside0.mk hR
    have HS := Aside0.mk hs
    have HH := Aside0.mk h
    have HE := Aside0.mk hE
    have HW := Aside0.mk (show EncW w E wd from hW)
    have HNE := Aside0.mk (And.intro hES (And.intro hEB hED))
    have HN := Aside0.mk hN
    have HLEN := Aside0.mk hlen
    have HRM := Aside0.mk hrm
    have HX := Aside0.mk hx
    have HFL := Aside0.mk hfl
    have hd : decide ((wd : Int) = 0) = false := by simpa using c0
    have hm0 : (0 : Int) ≤ (ts.length : Int) * (wd : Int) := by omega
    have hm1 : (ts.length : Int) * (wd : Int) ≤ 4194304 := by omega
    unfold EncAt at hE
    have hbN : pos + N ≤ 4194304 := by omega
    clear hs h hES hEB hED hN hlen hb hR hrm hx hfl hNi
    go_enter Try.func45, Try.ntmps45
    go_wp2_with (first | (go_at_call 62; go_loud (refine HR.out.mono ?_; rintro e w1 ⟨rfl, D1, l1, g1, g2, g3, g4, g5, g6⟩; have G1 := Aside0.mk g1; have G2 := Aside0.mk g2; have G3 := Aside0.mk g3; have G4 := Aside0.mk g4; have G5 := Aside0.mk g5; have G6 := Aside0.mk g6; clear g1 g2 g3 g4 g5 g6)))
    clear hE hW
    have g2 := G2.out
    have hlo := G1.out.lo
    have hhi := G1.out.hi
    go_loopg [28] (ts.length + 1) (fun kq v28 w' => ∃ (i : Nat) (lc : List Int), v28 = .int .i64 (i : Int) ∧ Aside0 (i + kq = ts.length + 1) ∧ Aside0 (i ≤ ts.length) ∧ Aside0 (Snk w' S B D1 lc (pos + wd * i) q G) ∧ Aside0 (lc.length = l1.length) ∧ Aside0 (lc.take (pos + wd * i) = l1.take pos ++ flX xs i) ∧ Aside0 (Kept w1 w' (fun k => k = S ∨ k = B ∨ k = D1)) ∧ Aside0 (Below (min S D1) w1 w'))
    case atStart => exact ⟨0, l1, rfl, ⟨by omega⟩, ⟨by omega⟩, ⟨G1.out⟩, ⟨rfl⟩, ⟨by simp [flX]⟩, ⟨Kept.refl _ _⟩, ⟨Below.refl _ _⟩⟩
    case round =>
      obtain ⟨i, lc, rfl, HK, HI, HSn, HLC, HTK, HKp, HBl⟩ := hrel
      cases gk with
      | zero => exact absurd HK.out (by have := HI.out; omega)
      | succ k1 =>
        by_cases c2 : (i : Int) < (ts.length : Int)
        · have c2b : decide ((i : Int) < (ts.length : Int)) = true := decide_eq_true c2
          have hKw : Kept w wr (fun k => k = S ∨ k = B ∨ k = D) := by
            refine (G5.out.mono (fun k hk => .inr (.inl hk))).then_ HKp.out (fun k hk => ?_)
            rcases hk with hk | hk | hk
            · exact .inl (.inl hk)
            · exact .inl (.inr (.inl hk))
            · rcases G4.out with e | e
              · exact .inl (.inr (.inr (hk.trans e)))
              · exact .inr (hk ▸ e)
          obtain ⟨hC, hT⟩ := HS.out wr hKw
          obtain ⟨ad, b1, n1, cc1, rfl, hti, hc⟩ := at_sl hC i (by omega)
          obtain ⟨s, hsi⟩ : ∃ s, xs[i]? = some s := ⟨_, List.getElem?_eq_getElem (by have := HLEN.out; omega)⟩
          have hTi := hT.2 i _ _ hti hsi
          have hss : s.size = wd := HX.out s (List.mem_of_getElem? hsi)
          have hn1 : n1 = wd := hTi.1.trans hss
          subst hn1
          have hrc : n1 ≤ cc1 := HRM.out _ (List.mem_of_getElem? hti)
          have hts := sliceTo_x b1 n1 cc1 hrc
          have heq := eqnil_x b1 n1 cc1
          have hbl : (bytesOf s).length = n1 := (bytesOf_length s).trans hss
          have g0 : (0 : Int) ≤ (i : Int) := by omega
          have hil : n1 * i + n1 ≤ N := by
            rw [HN.out, ← Nat.mul_succ]
            exact Nat.mul_le_mul_left _ (by omega)
          have hlc := HLC.out
          have hU := unsafe_len S B D1 lc (pos + n1 * i) q G ⟨b1, 0, none⟩ cc1 (bytesOf s) wr.drew ⟨HSn.out.s, HSn.out.b, HSn.out.le, HSn.out.lo, HSn.out.hi⟩ (by omega) (by omega) hTi.2.2.2
          rw [hbl] at hU
          have HU := Aside0.mk hU
          have hEw : wr.cell? ⟨E, 1, none⟩ = some (.pointer (some ⟨S, 0, none⟩)) := HE.out.kept hKw (fun h => by have := HNE.out; rcases h with h | h | h <;> omega)
          have HSI := Aside0.mk hsi
          have HBL := Aside0.mk hbl
          clear hKw hC hT hti hsi hTi hU hbl
          go_wp2
          go_still_tail 8, (by kernel_rfl)
          repeat still_step
          try refine wpStill_nil ?_
          change wpList _ _ _ _ _ wr.drew
          go_wp2_with (first | (go_at_call 65; go_loud (refine HU.out.mono ?_; rintro e w2 ⟨rfl, l2, f1, f2, f3, f4, f5⟩; have F1 := Aside0.mk f1; have F2 := Aside0.mk (f2.trans hlc); have F3 := Aside0.mk f3; have F4 := Aside0.mk f4; have F5 := Aside0.mk f5; clear f1 f2 f3 f4 f5)))
          have htk := F3.out
          rw [HTK.out, List.append_assoc, ← flX_step xs i s HSI.out, Nat.add_assoc, ← Nat.mul_succ] at htk
          have hsn := F1.out
          rw [Nat.add_assoc, ← Nat.mul_succ] at hsn
          have hkp : Kept w1 w2 (fun k => k = S ∨ k = B ∨ k = D1) := by
            have a1 : Kept wr w2 (fun k => k = S ∨ k = B ∨ k = D1) := ⟨F4.out.1, F4.out.2⟩
            exact HKp.out.then_ a1 (fun k hk => .inl hk)
          have hbl3 : Below (min S D1) w1 w2 := HBl.out.trans ((below_drew (Below.refl (min S D1) wr)).trans F5.out)
          go_roundg k1
          case measure => have := HK.out; omega
          case rel => exact ⟨i + 1, l2, (by simp), ⟨by have := HK.out; omega⟩, ⟨by omega⟩, ⟨hsn⟩, F2, ⟨htk⟩, ⟨hkp⟩, ⟨hbl3⟩⟩
        · have c2b : decide ((i : Int) < (ts.length : Int)) = false := decide_eq_false c2
          have hi2 : i = ts.length := by have := HI.out; omega
          subst hi2
          go_wp2
          go_end0
          have hfl := HFL.out
          have hln := HLEN.out
          have hall : flX xs ts.length = xs.flatMap bytesOf := by unfold flX; rw [hln, List.take_length]
          have htk := HTK.out
          rw [hall] at htk
          have hmN : (xs.flatMap bytesOf).length = wd * ts.length := by rw [hfl, hln]
          refine ⟨rfl, D1, lc, ?_, ?_, G4.out, ?_, ?_⟩
          · rw [hmN]; exact HSn.out
          · rw [hmN, htk, G3.out]
          · refine (G5.out.mono (fun k hk => .inr (.inl hk))).then_ HKp.out (fun k hk => ?_)
            rcases hk with hk | hk | hk
            · exact .inl (.inl hk)
            · exact .inl (.inr (.inl hk))
            · rcases G4.out with e | e
              · exact .inl (.inr (.inr (hk.trans e)))
              · exact .inr (hk ▸ e)
          · refine (G6.out.mono (by omega)).trans (HBl.out.mono ?_)
            have hB' := blk_lt HH.out.b.1
            rcases G4.out with e | e <;> omega
end Go.Proofs.Ytcfnniminikmfaa.Q
