/- PlainByteArrayEncoder.Put: each text behind its length. -/
import Derived.Test.YtcfnniminikmfaaTa
import Derived.BigQuiet
namespace Go.Proofs.Ytcfnniminikmfaa.Q
open Go.RowKit Go.Proofs.YtcfnniminikmfaaW.PrintWords Go.Proofs.YtcfnniminikmfaaW.PrintLast Go.Proofs.YtcfnniminikmfaaW.PrintMore
set_option linter.unusedVariables false
set_option linter.unusedSimpArgs false
/-- A text's bytes behind its length. -/
def byT (s : ByteArray) : List Int := le4 (s.size : Int) ++ bytesOf s
theorem byT_len (s : ByteArray) : (byT s).length = s.size + 4 := by simp [byT, le4, bytesOf_length]
def flT (xs : List ByteArray) (i : Nat) : List Int := (xs.take i).flatMap byT
theorem flT_step (xs : List ByteArray) (i : Nat) (s : ByteArray) (h : xs[i]? = some s) : flT xs (i + 1) = flT xs i ++ byT s := by
  unfold flT
  rw [List.take_add_one, h, List.flatMap_append]
  simp
theorem flT_le (xs : List ByteArray) (i : Nat) : (flT xs i).length ≤ (xs.flatMap byT).length := by
  have e : xs.flatMap byT = flT xs i ++ (xs.drop i).flatMap byT := by
    unfold flT
    rw [← List.flatMap_append, List.take_append_drop]
  rw [e, List.length_append]; omega
set_option maxRecDepth 100000 in
theorem sliceAt_o (D o n c i : Nat) (hi : i ≤ n) (hn : n ≤ c) (hc : c ≤ 16777216) (W : World) : (Instr.sliceAt 23 (.slice (some ⟨D, o, none⟩) n c) (some (.int .i64 (i : Int))) none none).run Try.prog W = .ok (.slice (some ⟨D, if c - i = 0 then o else o + i, none⟩) (n - i) (c - i)) W := by
  rw [run_sliceAt_slice W 23 _ _ _ _ Try.underlying23, run_slice_l W 23 (some ⟨D, o, none⟩) n c Try.underlying23 .i64 (i : Int) (by omega) (by omega)]
  have hsz : (sizeOf (Try.prog.elem 23)).run Try.prog W = .ok 1 W := by kernel_rfl
  rw [hsz]
  simp only [Result.andThen, sliced, Int.toNat_natCast]
  by_cases c0 : c - i = 0
  · rw [if_pos c0, if_pos (by omega)]
  · rw [if_neg c0, if_neg (by omega)]
    simp [Addr.add]
set_option maxRecDepth 100000 in
theorem sliceAt_lh (D L p N : Nat) (hi : p + N ≤ L) (hc : L ≤ 16777216) (W : World) : (Instr.sliceAt 23 (.slice (some ⟨D, 0, none⟩) L L) (some (.int .i64 (p : Int))) (some (.int .i64 ((p : Int) + (N : Int)))) none).run Try.prog W = .ok (.slice (some ⟨D, if L - p = 0 then 0 else p, none⟩) N (L - p)) W := by
  rw [run_sliceAt_slice W 23 _ _ _ _ Try.underlying23, run_slice_lh W 23 (some ⟨D, 0, none⟩) L L Try.underlying23 .i64 .i64 (p : Int) ((p : Int) + (N : Int)) (by omega) (by omega) (by omega)]
  have hsz : (sizeOf (Try.prog.elem 23)).run Try.prog W = .ok 1 W := by kernel_rfl
  rw [hsz]
  have e1 : ((p : Int) + (N : Int)).toNat = p + N := by omega
  have e2 : p + N - p = N := by omega
  simp only [Result.andThen, sliced, Int.toNat_natCast, e1, e2]
  by_cases c0 : L - p = 0
  · rw [if_pos c0, if_pos (by omega)]
  · rw [if_neg c0, if_neg (by omega)]
    simp [Addr.add]
    omega
theorem sliceAt_ox (D o n c i : Nat) (hi : i ≤ n) (hn : n ≤ c) (hc : c ≤ 16777216) : ∃ o2, (0 < c - i → o2 = o + i) ∧ (c - i = 0 → o2 = o) ∧ ∀ W : World, (Instr.sliceAt 23 (.slice (some ⟨D, o, none⟩) n c) (some (.int .i64 (i : Int))) none none).run Try.prog W = .ok (.slice (some ⟨D, o2, none⟩) (n - i) (c - i)) W :=
  ⟨if c - i = 0 then o else o + i, fun h => if_neg (by omega), fun h => if_pos h, fun W => sliceAt_o D o n c i hi hn hc W⟩
theorem sliceAt_lhx (D L p N : Nat) (hi : p + N ≤ L) (hc : L ≤ 16777216) : ∃ o2, (0 < L - p → o2 = p) ∧ ∀ W : World, (Instr.sliceAt 23 (.slice (some ⟨D, 0, none⟩) L L) (some (.int .i64 (p : Int))) (some (.int .i64 ((p : Int) + (N : Int)))) none).run Try.prog W = .ok (.slice (some ⟨D, o2, none⟩) N (L - p)) W :=
  ⟨if L - p = 0 then 0 else p, fun h => if_neg (by omega), fun W => sliceAt_lh D L p N hi hc W⟩
set_option maxHeartbeats 1000000 in
theorem lenT_calls (a : Option Addr) (n c : Nat) (w : World) : Calls Try.prog 61 #[.slice a n c] w fun e w' => e = .returned (.int .i64 (n : Int)) ∧ w' = w := by
  go_enter Try.func61, Try.ntmps61
  go_wp2
  go_ret
  exact ⟨rfl, rfl⟩
/-- 'copy' of a text into a row that is known. -/
theorem copy_text (w : World) (g o dLen dCap : Nat) (a : Addr) (sLen sCap : Nat) (cur cs : List Int) (hg : Row w g cur) (hn : cs.length = Nat.min sLen dLen)
    (hsrc : ∀ j, j < cs.length → w.cell? (a.add j) = some (.int .u8 (cs.getD j 0))) (hfit : o + cs.length ≤ cur.length) :
    ∃ w3, (Builtin.copy_ #[23, 130] 3 #[.slice (some ⟨g, o, none⟩) dLen dCap, .slice (some a) sLen sCap]).run Try.prog w = .ok (.int .i64 (cs.length : Int)) w3 ∧
      Row w3 g (cur.take o ++ cs ++ cur.drop (o + cs.length)) ∧ w3.heap.size = w.heap.size ∧ (∀ k, k ≠ g → w3.heap[k]? = w.heap[k]?) ∧ Below g w w3 := by
  have hr := run_copy_row (P := Try.prog) w 23 130 3 5 g o dLen dCap a sLen sCap (cur.map (Value.int .u8)).toArray 5 (cs.map (Value.int .u8)) Try.underlying23 (by kernel_rfl) hg (by simpa using hn)
    (fun j v hv => by
      have hj : j < cs.length := by
        have := (List.getElem?_eq_some_iff.1 hv).1
        simpa using this
      rw [hsrc j hj]
      simp [hj] at hv
      simp [hj, hv]) (by simpa using hfit) (by simp [Value.oneCell'])
  refine ⟨_, by simpa [goInt] using hr, ?_, by simp, fun k hk => setRow_other w g k _ hk, below_setRow (Below.refl _ _) (Nat.le_refl _) _⟩
  have := setRow_heap w g _ ((cur.map (Value.int .u8)).take o ++ cs.map (Value.int .u8) ++ (cur.map (Value.int .u8)).drop (o + (cs.map (Value.int .u8)).length)).toArray 5 _ hg
  unfold Row
  simpa using this
theorem at_sl {w : World} {A : Option Addr} {n : Nat} {ts : List (Nat × Nat × Nat)} (h : Kd.C kSl w A n ts) (i : Nat) (hi : i < n) : ∃ ad b m c, A = some ad ∧ ts[i]? = some (b, m, c) ∧ w.cell? (ad.add i) = some (.slice (some ⟨b, 0, none⟩) m c) := by
  have hn : ts.length = n := h.1
  obtain ⟨ad, rfl, hc⟩ := ReadsOf.at_ (Kd.reads_of_C (enc := slOf) (d := (0, 0, 0)) (h1 := fun _ => rfl) h) (i : Int) (by omega) (by omega)
  have e : ts[i]? = some (rdOf (0, 0, 0) ts (i : Int)) := by
    show _ = some (ts.getD (i : Int).toNat (0, 0, 0))
    rw [Int.toNat_natCast, List.getD_eq_getElem?_getD, List.getElem?_eq_getElem (by omega)]; rfl
  rw [Int.toNat_natCast] at hc
  exact ⟨ad, _, _, _, rfl, e, hc⟩
/-- The texts and the row of their slices stay, whatever becomes of the writer. -/
def Stay (w : World) (S B D : Nat) (A : Option Addr) (ts : List (Nat × Nat × Nat)) (xs : List ByteArray) (base : Nat) : Prop := ∀ W, Kept w W (fun k => k = S ∨ k = B ∨ k = D) → Kd.C kSl W A ts.length ts ∧ TextsAt W base ts xs
theorem rowstep (lc : List Int) (o o4 C : Nat) (s : ByteArray) (h : o + 4 + s.size ≤ lc.length) (h4 : 0 < C → o4 = o + 4) (h4z : C = 0 → o4 = o) (hC : s.size ≤ C) :
    (lc.take o ++ le4 (s.size : Int) ++ lc.drop (o + 4)).take o4 ++ bytesOf s ++ (lc.take o ++ le4 (s.size : Int) ++ lc.drop (o + 4)).drop (o4 + (bytesOf s).length) = lc.take o ++ byT s ++ lc.drop (o + (s.size + 4)) := by
  have hb := bytesOf_length s
  have hl4 : (le4 (s.size : Int)).length = 4 := rfl
  have ht : (lc.take o).length = o := by rw [List.length_take]; omega
  by_cases c : C = 0
  · have hs : s.size = 0 := by omega
    have hz : bytesOf s = [] := List.eq_nil_of_length_eq_zero (by omega)
    rw [h4z c, hz]
    simp only [List.length_nil, Nat.add_zero, List.append_nil, List.take_append_drop]
    unfold byT
    rw [hz, hs]
    simp
  · rw [h4 (by omega)]
    have e1 : (lc.take o ++ le4 (s.size : Int) ++ lc.drop (o + 4)).take (o + 4) = lc.take o ++ le4 (s.size : Int) := List.take_left' (by rw [List.length_append, ht, hl4])
    have e2 : (lc.take o ++ le4 (s.size : Int) ++ lc.drop (o + 4)).drop (o + 4 + (bytesOf s).length) = lc.drop (o + (s.size + 4)) := by
      rw [List.drop_append, List.length_append, ht, hl4, List.drop_of_length_le (by rw [List.length_append, ht, hl4]; omega), List.drop_drop, hb]
      simp only [List.nil_append]
      congr 1; omega
    rw [e1, e2]
    unfold byT
    simp only [List.append_assoc]
theorem rowtake (lc : List Int) (o n : Nat) (P : List Int) (s : ByteArray) (h : o ≤ lc.length) (hP : lc.take o = P) (hn : n = o + (s.size + 4)) : (lc.take o ++ byT s ++ lc.drop (o + (s.size + 4))).take n = P ++ byT s := by
  rw [hP]
  refine List.take_left' ?_
  rw [List.length_append, byT_len, ← hP, List.length_take]; omega
set_option maxHeartbeats 4000000 in
set_option maxRecDepth 100000 in
theorem putT_calls (E S B D : Nat) (l : List Int) (pos : Nat) (q : Int) (G : Nat) (A : Option Addr) (c : Nat) (ts : List (Nat × Nat × Nat)) (xs : List ByteArray) (base : Nat) (w : World) (hE : EncAt w E S) (hES : E ≠ S) (hEB : E ≠ B) (hED : E ≠ D) (h : Snk w S B D l pos q G) (hs : Stay w S B D A ts xs base) (hDb : D < base) (hb : pos + (xs.flatMap byT).length ≤ 4194304) (hn : ts.length ≤ 1048576) :
    Calls Try.prog 42 #[.pointer (some ⟨E, 0, none⟩), .slice A ts.length c] w fun e w' => e = .returned (.tuple #[]) ∧ Wrote w w' S B D l pos q G (xs.flatMap byT) := by
  obtain ⟨N, hN⟩ : ∃ N, N = (xs.flatMap byT).length := ⟨_, rfl⟩
  have hlen : ts.length = xs.length := (hs w (Kept.refl _ _)).2.1
  have hle : ∀ i, (flT xs i).length ≤ N := fun i => by rw [hN]; exact flT_le xs i
  have hall : flT xs ts.length = xs.flatMap byT := by unfold flT; rw [hlen, List.take_length]
  have HR := Aside0.mk (reserve_any S B D l pos q G N w h (by omega))
  have HS := Aside0.mk hs
  have HH := Aside0.mk h
  have HE := Aside0.mk hE
  have HNE := Aside0.mk (And.intro hES (And.intro hEB hED))
  have HN := Aside0.mk hN
  have HLE := Aside0.mk hle
  have HALL := Aside0.mk hall
  have HLEN := Aside0.mk hlen
  have HL := Aside0.mk lenT_calls
  have hbN : pos + N ≤ 4194304 := by omega
  clear hs h hE hES hEB hED hN hle hall hb hlen
  go_enter Try.func42, Try.ntmps42
  go_wp2
  go_loopg [4, 12] (ts.length + 1) (fun kq v4 v12 w' => ∃ (i k : Nat), v12 = .int .i64 (i : Int) ∧ v4 = .int .i64 (k : Int) ∧ Aside0 (i + kq = ts.length + 1) ∧ Aside0 (i ≤ ts.length) ∧ Aside0 (k = (flT xs i).length) ∧ w' = w)
  case atStart => exact ⟨0, 0, rfl, rfl, ⟨by omega⟩, ⟨by omega⟩, ⟨rfl⟩, rfl⟩
  case round =>
    obtain ⟨i, k, rfl, rfl, HK, HI, HKK, hwr⟩ := hrel
    subst wr
    cases gk with
    | zero => exact absurd HK.out (by have := HI.out; omega)
    | succ k1 =>
      by_cases c2 : (i : Int) < (ts.length : Int)
      · have c2b : decide ((i : Int) < (ts.length : Int)) = true := decide_eq_true c2
        obtain ⟨hC, hT⟩ := HS.out w (Kept.refl _ _)
        obtain ⟨ad, b1, n1, cc1, rfl, hti, hc⟩ := at_sl hC i (by omega)
        obtain ⟨s, hsi⟩ : ∃ s, xs[i]? = some s := ⟨_, List.getElem?_eq_getElem (by have := HLEN.out; omega)⟩
        have hTi := hT.2 i _ _ hti hsi
        have hn1 : n1 = s.size := hTi.1
        have hst : (flT xs (i + 1)).length = k + (n1 + 4) := by rw [flT_step xs i s hsi, List.length_append, byT_len, HKK.out, hn1]
        have hle1 := HLE.out (i + 1)
        have g0 : (0 : Int) ≤ (i : Int) := by omega
        have gn : n1 ≤ 4194304 := by omega
        have gk' : k + (n1 + 4) ≤ 4194304 := by omega
        have HST := Aside0.mk hst
        clear hC hT hti hsi hTi hn1 hst hle1
        go_wp2_with (first | (go_at_call 61; refine (HL.out _ _ _ _).mono ?_; rintro e w1 ⟨rfl, hw1⟩; subst w1))
        go_roundg k1
        case measure => have := HK.out; omega
        case rel => exact ⟨i + 1, k + (n1 + 4), (by simp), (by simp), ⟨by have := HK.out; omega⟩, ⟨by omega⟩, ⟨HST.out.symm⟩, rfl⟩
      · have c2b : decide ((i : Int) < (ts.length : Int)) = false := decide_eq_false c2
        have hi : i = ts.length := by have := HI.out; omega
        subst hi
        have hkN : k = N := by have := HKK.out; rw [HALL.out, ← HN.out] at this; exact this
        subst hkN
        have hE : w.cell? ⟨E, 1, none⟩ = some (.pointer (some ⟨S, 0, none⟩)) := HE.out
        go_wp2_with (first | (go_at_call 62; go_loud (refine HR.out.mono ?_; rintro e w1 ⟨rfl, D1, l1, g1, g2, g3, g4, g5, g6⟩; have hE1 : w1.cell? ⟨E, 1, none⟩ = some (.pointer (some ⟨S, 0, none⟩)) := (cell_same (a := ⟨E, 1, none⟩) (g5.2 E (World.block_lt_of_cell? w _ HE.out) HNE.out.2.1)).trans HE.out; have s0 : w1.cell? ⟨S, 0, none⟩ = some (.pointer (some ⟨B, 0, none⟩)) := (blk_cell g1.s 0).trans rfl; have s1 : w1.cell? ⟨S, 1, none⟩ = some (.int .i64 (pos : Int)) := (blk_cell g1.s 1).trans rfl; have HQ := Aside0.mk (show ∀ n, Calls Try.prog 63 #[.pointer (some ⟨B, 0, none⟩)] (w1.drewN n) fun e w'' => e = .returned (.slice (some ⟨D1, 0, none⟩) l1.length l1.length) ∧ ∃ m, w'' = w1.drewN m from fun n => (buf_calls B D1 l1 q G (w1.drewN n) g1.b).mono (fun e w' h => ⟨h.1, n, h.2⟩)); obtain ⟨o0, ho0, hsl⟩ := sliceAt_lhx D1 l1.length pos k g2 g1.hi; have G1 := Aside0.mk g1; have G2 := Aside0.mk g2; have G3 := Aside0.mk g3; have G4 := Aside0.mk g4; have G5 := Aside0.mk g5; have G6 := Aside0.mk g6; clear g1 g2 g3 g4 g5 g6)))
        have hw1 : IntKind.i64.wrap ((pos : Int) + (k : Int)) = (pos : Int) + (k : Int) := by rw [IntKind.wrap_i64]; omega
        go_quiet (first | (go_at_call 63; exact HQ.out _))
        obtain ⟨W1, hW1⟩ : ∃ W1, W1 = w1.drewN nq := ⟨_, rfl⟩
        have J1 : Snk W1 S B D1 l1 pos q G := by rw [hW1]; exact ⟨G1.out.s, G1.out.b, G1.out.le, G1.out.lo, G1.out.hi⟩
        have J2 : Kept w W1 (fun k => k = B) := by rw [hW1]; exact Kept.drewN G5.out nq
        have J3 : Below B w W1 := by rw [hW1]; exact pw_below_drewN G6.out nq
        rw [← hW1]
        have HJ1 := Aside0.mk J1
        have HJ2 := Aside0.mk J2
        have HJ3 := Aside0.mk J3
        clear hW1 HQ G1 G5 G6 hE hE1 s0 s1 hsl hw1 J1 J2 J3 c2 c2b
        have HG4 := Aside0.mk G4.out
        have HG3 := Aside0.mk G3.out
        have g2 := G2.out
        have hlo := HJ1.out.lo
        have hhi := HJ1.out.hi
        obtain ⟨n1, n2, n3⟩ := bufne HJ1.out
        have NB := Aside0.mk (And.intro n1 (And.intro n2 n3))
        clear n1 n2 n3 G3 G4
        go_wp2
        go_loopg [7, 59] (ts.length + 1) (fun kq v7 v59 w' => ∃ (i m oo : Nat) (lc : List Int), v59 = .int .i64 (i : Int) ∧ v7 = .slice (some ⟨D1, oo, none⟩) (k - m) (l1.length - pos - m) ∧ Aside0 (i + kq = ts.length + 1) ∧ Aside0 (i ≤ ts.length) ∧ Aside0 (m = (flT xs i).length) ∧ Aside0 (0 < l1.length - pos - m → oo = pos + m) ∧ Aside0 (Row w' D1 lc) ∧ Aside0 (lc.length = l1.length) ∧ Aside0 (lc.take (pos + m) = l1.take pos ++ flT xs i) ∧ Aside0 (Kept W1 w' (fun k => k = D1)) ∧ Aside0 (Below D1 W1 w'))
        case atStart => exact ⟨0, 0, _, l1, rfl, rfl, ⟨by omega⟩, ⟨by omega⟩, ⟨rfl⟩, ⟨by intro h; rw [ho0 (by omega)]; rfl⟩, ⟨HJ1.out.b.2⟩, ⟨rfl⟩, ⟨by simp [flT]⟩, ⟨Kept.refl _ _⟩, ⟨Below.refl _ _⟩⟩
        case round =>
          obtain ⟨i, m, oo, lc, rfl, rfl, HK2, HI2, HM, HO, HRow, HLC, HTK, HKp, HBl⟩ := hrel
          cases gk with
          | zero => exact absurd HK2.out (by have := HI2.out; omega)
          | succ k2 =>
            by_cases c2 : (i : Int) < (ts.length : Int)
            · have c2b : decide ((i : Int) < (ts.length : Int)) = true := decide_eq_true c2
              have hKw : Kept w wr (fun k => k = S ∨ k = B ∨ k = D) := by
                refine (HJ2.out.mono (fun k hk => .inr (.inl hk))).then_ HKp.out (fun k hk => ?_)
                rcases HG4.out with e | e
                · exact .inl (.inr (.inr (hk.trans e)))
                · exact .inr (hk ▸ e)
              obtain ⟨hC, hT⟩ := HS.out wr hKw
              obtain ⟨ad, b1, n1, cc1, rfl, hti, hc⟩ := at_sl hC i (by omega)
              obtain ⟨s, hsi⟩ : ∃ s, xs[i]? = some s := ⟨_, List.getElem?_eq_getElem (by have := HLEN.out; omega)⟩
              have hTi := hT.2 i _ _ hti hsi
              have hn1 : n1 = s.size := hTi.1
              have hst : (flT xs (i + 1)).length = m + (n1 + 4) := by rw [flT_step xs i s hsi, List.length_append, byT_len, HM.out, hn1]
              have hle1 := HLE.out (i + 1)
              have g0 : (0 : Int) ≤ (i : Int) := by omega
              have gm : m + n1 + 4 ≤ k := by omega
              have ho : oo = pos + m := HO.out (by omega)
              subst ho
              have hlc := HLC.out
              have hP := put32_calls D1 (pos + m) (k - m) (l1.length - pos - m) lc (n1 : Int) wr.drew HRow.out (by omega) (by omega) (by omega) (by omega)
              have HP := Aside0.mk hP
              obtain ⟨o4, ho4, ho4z, hs4⟩ := sliceAt_ox D1 (pos + m) (k - m) (l1.length - pos - m) 4 (by omega) (by omega) (by omega)
              obtain ⟨o5, ho5, ho5z, hs5⟩ := sliceAt_ox D1 (pos + m) (k - m) (l1.length - pos - m) (4 + n1) (by omega) (by omega) (by omega)
              simp only [show ((4 + n1 : Nat) : Int) = 4 + (n1 : Int) by omega] at hs5
              simp only [show ((4 : Nat) : Int) = 4 from rfl] at hs4
              have hfit4 : o4 + s.size ≤ l1.length := by
                by_cases c0 : l1.length - pos - m - 4 = 0
                · rw [ho4z c0]; omega
                · rw [ho4 (by omega)]; omega
              have hcv : IntKind.u32.wrap (n1 : Int) = (n1 : Int) := by rw [IntKind.wrap_u32]; omega
              have HTI := Aside0.mk hTi
              have HBD := Aside0.mk (show b1 < wr.drew.heap.size ∧ ¬ b1 = D1 from by
                obtain ⟨cs', fr', hcl⟩ := hTi.2.2.1
                have hlt := blk_lt hcl
                refine ⟨hlt, fun e => ?_⟩
                obtain ⟨cs2, fr2, hcl2⟩ := ((HS.out w (Kept.refl _ _)).2.2 i _ _ hti hsi).2.2.1
                have hlt2 : b1 < w.heap.size := blk_lt hcl2
                have hbase : base ≤ b1 := hTi.2.1
                rcases HG4.out with e' | e' <;> omega)
              have HST := Aside0.mk hst
              have HSI := Aside0.mk hsi
              have HN1 := Aside0.mk hn1
              clear hKw hC hT hti hsi hTi hst hP hn1
              go_wp2
              go_still_tail 5, (by kernel_rfl)
              still_call (HL.out _ _ _ _)
              repeat still_step
              try refine wpStill_nil ?_
              change wpList _ _ _ _ _ wr.drew
              go_wp2_with (first | (go_at_call 64; go_loud (refine HP.out.mono ?_; rintro e w2 ⟨rfl, e1, e2, e3⟩; have hbd := HBD.out; have hT2 : TextAt w2 base (b1, n1, cc1) s := HTI.out.move (e2.2 b1 hbd.1 hbd.2); have hsr : Src w2 ⟨b1, 0, none⟩ (bytesOf s) := hT2.2.2.2; have hbl := bytesOf_length s; have hn1 := HN1.out; obtain ⟨w3, hcp, f1, f2, f3, f4⟩ := copy_text w2 D1 o4 (k - m - 4) (l1.length - pos - m - 4) ⟨b1, 0, none⟩ n1 cc1 _ (bytesOf s) e1 (by show _ = min _ _; omega) hsr (by simp only [List.length_append, List.length_take, List.length_drop, le4, List.length_cons, List.length_nil]; omega); have F1 := Aside0.mk f1; have F2 := Aside0.mk (And.intro f2 f3); have F4 := Aside0.mk (e3.trans f4); have E2 := Aside0.mk e2; clear e1 e2 e3 f1 f2 f3 f4 hT2 hsr hbd hn1)) | (go_at_call 61; refine (HL.out _ _ _ _).mono ?_; rintro e w9 ⟨rfl, hw1⟩; subst w9))
              have hR3 := F1.out
              have hn1' := HN1.out
              have hs4l : s.size ≤ l1.length - pos - m - 4 := by omega
              rw [hn1', rowstep lc (pos + m) o4 (l1.length - pos - m - 4) s (by omega) ho4 ho4z hs4l] at hR3
              have hlen3 : (lc.take (pos + m) ++ byT s ++ lc.drop (pos + m + (s.size + 4))).length = l1.length := by
                simp only [List.length_append, byT_len, List.length_take, List.length_drop]; omega
              have htk3 : (lc.take (pos + m) ++ byT s ++ lc.drop (pos + m + (s.size + 4))).take (pos + (m + (4 + n1))) = l1.take pos ++ flT xs (i + 1) := by
                rw [rowtake lc (pos + m) _ _ s (by omega) HTK.out (by omega), flT_step xs i s HSI.out, List.append_assoc]
              have hkp3 : Kept W1 w3 (fun k => k = D1) := by
                have a1 : Kept wr w2 (fun k => k = D1) := ⟨E2.out.1, E2.out.2⟩
                have a2 : Kept w2 w3 (fun k => k = D1) := ⟨Nat.le_of_eq F2.out.1.symm, fun k _ hk => F2.out.2 k hk⟩
                exact (HKp.out.then_ a1 (fun k hk => .inl hk)).then_ a2 (fun k hk => .inl hk)
              have hbl3 : Below D1 W1 w3 := HBl.out.trans ((below_drew (Below.refl D1 wr)).trans F4.out)
              have hst' := HST.out
              go_roundg k2
              case measure => have := HK2.out; omega
              case rel => exact ⟨i + 1, m + (4 + n1), o5, _, (by simp), (by simp only [Nat.sub_sub, Nat.add_assoc]), ⟨by have := HK2.out; omega⟩, ⟨by omega⟩, ⟨by omega⟩, ⟨fun h => by rw [ho5 (by omega)]; omega⟩, ⟨hR3⟩, ⟨hlen3⟩, ⟨htk3⟩, ⟨hkp3⟩, ⟨hbl3⟩⟩
            · have c2b : decide ((i : Int) < (ts.length : Int)) = false := decide_eq_false c2
              have hi2 : i = ts.length := by have := HI2.out; omega
              subst hi2
              have hmk : m = k := by have := HM.out; rw [HALL.out, ← HN.out] at this; exact this
              subst hmk
              obtain ⟨n1, n2, n3⟩ := NB.out
              have hElt : E < w.heap.size := World.block_lt_of_cell? w _ HE.out
              have hned := HNE.out.2.2
              have hED1 : E ≠ D1 := by rcases HG4.out with e | e <;> omega
              have hEw : wr.cell? ⟨E, 1, none⟩ = some (.pointer (some ⟨S, 0, none⟩)) := (cell_same (a := ⟨E, 1, none⟩) ((HKp.out.2 E (Nat.lt_of_lt_of_le hElt HJ2.out.1) hED1).trans (HJ2.out.2 E hElt HNE.out.2.1))).trans HE.out
              have hSw : wr.heap[S]? = some (sinkO B pos) := (HKp.out.2 S (blk_lt HJ1.out.s) n2).trans HJ1.out.s
              have hBw : wr.heap[B]? = _ := (HKp.out.2 B (blk_lt HJ1.out.b.1) n3).trans HJ1.out.b.1
              have s0 : wr.cell? ⟨S, 0, none⟩ = some (.pointer (some ⟨B, 0, none⟩)) := (blk_cell hSw 0).trans rfl
              have s1 : wr.cell? ⟨S, 1, none⟩ = some (.int .i64 (pos : Int)) := (blk_cell hSw 1).trans rfl
              have z1 : wr.frozen? ⟨S, 1, none⟩ = false := blk_frozen hSw 1
              have SW := Aside0.mk hSw
              have BW := Aside0.mk hBw
              have N123 := Aside0.mk (And.intro n1 (And.intro n2 n3))
              have hpm : (pos : Int) + (m : Int) ≤ 16777216 := by omega
              clear hSw hBw n1 n2 n3
              go_wp2
              go_end0
              obtain ⟨n1, n2, n3⟩ := N123.out
              have hmN : (xs.flatMap byT).length = m := HN.out.symm
              have hlc := HLC.out
              have htk := HTK.out
              rw [HALL.out] at htk
              refine ⟨rfl, D1, lc, ⟨?_, ⟨?_, ?_⟩, by rw [hmN]; omega, by rw [hlc]; exact hlo, by rw [hlc]; exact hhi⟩, ?_, HG4.out, ?_, ?_⟩
              · rw [hmN]
                exact blk_set SW.out 1 (.int .i64 ((pos : Int) + (m : Int)))
              · rw [hlc]
                exact blk_far BW.out (p := ⟨S, 1, none⟩) (show B ≠ S from fun e => n1 e.symm) _
              · exact blk_far HRow.out (p := ⟨S, 1, none⟩) (show D1 ≠ S from fun e => n2 e.symm) _
              · rw [hmN, htk, HG3.out]
              · refine Kept.setCell ?_ (.inl (.inl rfl)) _
                refine (HJ2.out.mono (fun k hk => .inr (.inl hk))).then_ HKp.out (fun k hk => ?_)
                rcases HG4.out with e | e
                · exact .inl (.inr (.inr (hk.trans e)))
                · exact .inr (hk ▸ e)
              · refine Below.setCell (p := ⟨S, 1, none⟩) ?_ (Nat.min_le_left _ _) _
                refine (HJ3.out.mono (by omega)).trans (HBl.out.mono ?_)
                have hB' := blk_lt HH.out.b.1
                rcases HG4.out with e | e <;> omega
end Go.Proofs.Ytcfnniminikmfaa.Q
