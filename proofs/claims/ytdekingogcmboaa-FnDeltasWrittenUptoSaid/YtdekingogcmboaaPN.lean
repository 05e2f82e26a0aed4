/- Several texts of ours in one: Pe, Pf, Pg. -/
import Derived.Test.YtdekingogcmboaaPM
import Derived.Test.YtdekingogcmboaaQDLc
import Derived.Test.YtdekingogcmboaaME
/- Blocks of differences, read back, plainly. -/
namespace Go.Proofs.Ytdekingogcmboaa.Q
open Go.RowKit Go.Proofs.YtdekingogcmboaaW.PrintWords Go.Proofs.YtdekingogcmboaaW.PrintLast Go.Proofs.YtdekingogcmboaaW.PrintMore
set_option linter.unusedVariables false
set_option linter.unusedSimpArgs false
/-- Numbers out of differences. -/
def und (wr : Int → Int) : Int → List Int → List Int
  | _, [] => []
  | c, d :: ds => wr (c + d) :: und wr (wr (c + d)) ds
theorem und_nil (wr : Int → Int) (c : Int) : und wr c [] = [] := rfl
theorem und_cons (wr : Int → Int) (c d : Int) (ds : List Int) : und wr c (d :: ds) = wr (c + d) :: und wr (wr (c + d)) ds := rfl
theorem lst_nil (c : Int) : lst c [] = c := rfl
theorem lst_cons (c d : Int) (ds : List Int) : lst c (d :: ds) = lst d ds := rfl
theorem und_len (wr : Int → Int) (c : Int) (ds : List Int) : (und wr c ds).length = ds.length := by
  induction ds generalizing c with
  | nil => rfl
  | cons d ds ih => simp [und, ih]
theorem und_append (wr : Int → Int) (c : Int) (a b : List Int) : und wr c (a ++ b) = und wr c a ++ und wr (lst c (und wr c a)) b := by
  induction a generalizing c with
  | nil => rfl
  | cons d a ih => simp only [List.cons_append, und, ih, lst]
theorem lst_append (c : Int) (a b : List Int) : lst c (a ++ b) = lst (lst c a) b := by
  induction a generalizing c with
  | nil => rfl
  | cons d a ih => simp only [List.cons_append, lst, ih]
/-- A width, and what wraps numbers to it. -/
structure Wr (wdt : Int) (wr : Int → Int) : Prop where
  wt : ∀ x, spec_wrapTo.f x wdt = some (wr x)
  md : ∀ a b : Int, (a - b) % 18446744073709551616 = 0 → wr a = wr b
theorem wr64 : Wr 64 wrap64 := ⟨wrapTo64, fun a b h => by unfold wrap64; omega⟩
theorem wr32 : Wr 32 wrap32 := ⟨wrapTo32, fun a b h => by unfold wrap32; omega⟩
theorem Wr.sum {wdt : Int} {wr : Int → Int} (h : Wr wdt wr) (x mn d : Int) (v : Nat) (hv : (v : Int) = d - mn) : wr (wrap64 (wrap64 (x + mn) + wrap64 (v : Int))) = wr (x + d) := by
  apply h.md
  rw [hv]
  unfold wrap64
  omega
/-- A chunk's values, one by one. -/
theorem l2_run {wdt : Int} {wr : Int → Int} (hW : Wr wdt wr) (data : List Int) (hdl : data.length < 1000000) (mn : Int) (hmn : -9223372036854775808 ≤ mn ∧ mn ≤ 9223372036854775807) (c : List Int) (w at_ tot : Nat) (ws : List Int) (wl idx : Int) (hw : w ≤ 64) (P : Nat)
    (hP : ∀ i, i < c.length → P / 2 ^ (w * i) % 2 ^ w = (c.getD i 0 - mn).toNat ∧ mn ≤ c.getD i 0) (hps : (data.take (at_ + 4 * w)).drop at_ = toB (4 * w) P) (hal : at_ + 4 * w ≤ data.length) (hc : c.length ≤ 32) (r : Nat) :
    ∀ (j : Nat) (x4 : List Int) (x16 : Int) (k : Nat), r = c.length - j → j ≤ c.length → 100 ≤ k → (c.length = 32 ∨ x4.length + r = tot) → x4.length + r ≤ tot → tot ≤ 3000 →
      spec_Deltas.l2 (k + 2 * r + 2) data wdt x4 128 (at_ : Int) 4 (tot : Int) x16 (zz mn : Int) (w : Int) 32 ((4 * w : Nat) : Int) (j : Int) ws wl idx =
      spec_Deltas.l1 k data wdt (x4 ++ und wr x16 (c.drop j)) 128 ((at_ + 4 * w : Nat) : Int) 4 (tot : Int) (lst x16 (und wr x16 (c.drop j))) (zz mn : Int) ws wl (wrap64 (idx + 1)) := by
  induction r with
  | zero =>
    intro j x4 x16 k hr hj hk h1 h2 ht
    have hjc : j = c.length := by omega
    have hd : c.drop j = [] := List.drop_eq_nil_of_le (by omega)
    have hcase : (j : Int) < 32 → ¬ ((x4.length : Int) < (tot : Int)) := by omega
    have b1 : at_ + 4 * w ≤ 4000000000000 := by omega
    have b2 : tot ≤ 4000000000000 := by omega
    have hadd := wr_add at_ (4 * w) b1
    have hwt := wr_nat tot b2
    rw [hd, show k + 2 * 0 + 2 = k + 2 by omega]
    have hj6 : spec_Deltas.j6 (k + 1) data wdt x4 128 (at_ : Int) 4 (tot : Int) x16 (zz mn : Int) (w : Int) 32 ((4 * w : Nat) : Int) (j : Int) ws wl idx false = spec_Deltas.l1 k data wdt (x4 ++ und wr x16 []) 128 ((at_ + 4 * w : Nat) : Int) 4 (tot : Int) (lst x16 (und wr x16 [])) (zz mn : Int) ws wl (wrap64 (idx + 1)) := by
      conv => lhs; unfold spec_Deltas.j6
      rw [if_neg Bool.false_ne_true, hadd, und_nil, lst_nil, List.append_nil]
    conv => lhs; unfold spec_Deltas.l2
    rw [hwt]
    by_cases hlt : (j : Int) < 32
    · rw [if_pos hlt, decide_eq_false (hcase hlt)]
      exact hj6
    · rw [if_neg hlt]
      exact hj6
  | succ r ih =>
    intro j x4 x16 k hr hj hk h1 h2 ht
    have hjc : j < c.length := by omega
    have q1 : (j : Int) < 32 := by omega
    have q2 : (x4.length : Int) < (tot : Int) := by omega
    have q3 : (0 : Int) ≤ (at_ : Int) := by omega
    have q4 : (at_ : Int) ≤ ((at_ + 4 * w : Nat) : Int) := by omega
    have q5 : ((at_ + 4 * w : Nat) : Int) ≤ (data.length : Int) := by omega
    have q6 : x4.length < 17592186044416 := by omega
    have q7 : 66 ≤ k + 2 * r + 2 := by omega
    have q8 : j < 32 := by omega
    have q9 : j ≤ 4000000000 := by omega
    have q10 : at_ + 4 * w ≤ 4000000000000 := by omega
    have q11 : tot ≤ 4000000000000 := by omega
    have q12 : w ≤ 4000000000000 := by omega
    obtain ⟨p1, p2⟩ := hP j hjc
    have hpk := packed_at (4 * w) P j w (k + 2 * r + 2) q8 hw rfl q7
    rw [p1] at hpk
    have hv : (((c.getD j 0 - mn).toNat : Nat) : Int) = c.getD j 0 - mn := by omega
    have hsum := hW.sum x16 mn (c.getD j 0) _ hv
    have huz := unzig_is mn hmn.1 hmn.2
    have hdr : c.drop j = c.getD j 0 :: c.drop (j + 1) := by
      rw [List.drop_eq_getElem_cons hjc, List.getD_eq_getElem?_getD, List.getElem?_eq_getElem hjc]
      rfl
    have hih := ih (j + 1) (x4 ++ [wr (x16 + c.getD j 0)]) (wr (x16 + c.getD j 0)) k (by omega) (by omega) hk (by rw [List.length_append, List.length_singleton]; omega) (by rw [List.length_append, List.length_singleton]; omega) ht
    rw [show k + 2 * (r + 1) + 2 = k + 2 * r + 2 + 2 by omega]
    conv => lhs; unfold spec_Deltas.l2
    rw [wr_nat tot q11, if_pos q1, decide_eq_true q2]
    conv => lhs; unfold spec_Deltas.j6
    rw [if_pos rfl, huz, Option.bind_some, wr_add at_ (4 * w) q10, if_pos q3, if_pos q4, if_pos q5]
    rw [Int.toNat_natCast, Int.toNat_natCast, hps, wr_nat w q12, hpk, Option.bind_some, hW.wt, Option.bind_some, hsum, if_pos q6, wr_one j q9, hih, hdr]
    rw [und_cons, lst_cons, List.append_assoc, List.singleton_append]
end Go.Proofs.Ytdekingogcmboaa.Q

/- A block, and all blocks, read back, plainly. -/
namespace Go.Proofs.Ytdekingogcmboaa.Q
open Go.RowKit Go.Proofs.YtdekingogcmboaaW.PrintWords Go.Proofs.YtdekingogcmboaaW.PrintLast Go.Proofs.YtdekingogcmboaaW.PrintMore
set_option linter.unusedVariables false
set_option linter.unusedSimpArgs false
theorem e32 : wrap64 (IntKind.u64.wrap (Int.tdiv 128 4)) = 32 := by decide +kernel
theorem esz (w : Nat) (hw : w ≤ 64) : wrap64 (Int.tdiv (wrap64 (32 * (w : Int))) 8) = ((4 * w : Nat) : Int) := by
  have h1 : wrap64 (32 * (w : Int)) = ((32 * w : Nat) : Int) := by unfold wrap64; omega
  have h2 : Int.tdiv ((32 * w : Nat) : Int) 8 = ((4 * w : Nat) : Int) := by rw [Int.tdiv_eq_ediv_of_nonneg (by omega)]; omega
  rw [h1, h2]
  exact wr_nat _ (by omega)
theorem l1_mini {wdt : Int} {wr : Int → Int} (hW : Wr wdt wr) (data : List Int) (hdl : data.length < 1000000) (mn : Int) (hmn : -9223372036854775808 ≤ mn ∧ mn ≤ 9223372036854775807) (c : List Int) (w at_ tot : Nat) (ws : List Int) (hwl : ws.length = 4) (i : Nat) (hi : i < 4) (hrd : rd ws (i : Int) = (w : Int)) (hw : w ≤ 64) (hwd : (w : Int) ≤ wdt) (P : Nat)
    (hP : ∀ i, i < c.length → P / 2 ^ (w * i) % 2 ^ w = (c.getD i 0 - mn).toNat ∧ mn ≤ c.getD i 0) (hps : (data.take (at_ + 4 * w)).drop at_ = toB (4 * w) P) (hal : at_ + 4 * w ≤ data.length) (hc : c.length ≤ 32) (hc0 : 0 < c.length) (x4 : List Int) (x16 : Int) (k : Nat) (hk : 100 ≤ k) (h1 : c.length = 32 ∨ x4.length + c.length = tot) (h2 : x4.length + c.length ≤ tot) (ht : tot ≤ 3000) :
    spec_Deltas.l1 (k + 2 * c.length + 4) data wdt x4 128 (at_ : Int) 4 (tot : Int) x16 (zz mn : Int) ws 4 (i : Int) =
      spec_Deltas.l1 k data wdt (x4 ++ und wr x16 c) 128 ((at_ + 4 * w : Nat) : Int) 4 (tot : Int) (lst x16 (und wr x16 c)) (zz mn : Int) ws 4 ((i + 1 : Nat) : Int) := by
  have q1 : (i : Int) < 4 := by omega
  have q2 : (0 : Int) ≤ (i : Int) := by omega
  have q3 : (i : Int) < (ws.length : Int) := by omega
  have q4 : ¬ ((x4.length : Int) = (tot : Int)) := by omega
  have q5 : ¬ ((w : Int) > wdt) := by omega
  have q6 : ¬ (((at_ + 4 * w : Nat) : Int) > (data.length : Int)) := by omega
  have b1 : tot ≤ 4000000000000 := by omega
  have b2 : at_ + 4 * w ≤ 4000000000000 := by omega
  have b3 : w ≤ 4000000000000 := by omega
  have b4 : i ≤ 4000000000 := by omega
  have hl2 := l2_run hW data hdl mn hmn c w at_ tot ws 4 (i : Int) hw P hP hps hal hc c.length 0 x4 x16 k (by omega) (by omega) hk h1 h2 ht
  rw [List.drop_zero, wr_one i b4] at hl2
  rw [show k + 2 * c.length + 4 = k + 2 * c.length + 2 + 1 + 1 by omega]
  conv => lhs; unfold spec_Deltas.l1
  rw [if_pos q1, if_pos q2, if_pos q3, wr_nat tot b1, if_neg q4, if_neg (by decide), hrd, wr_nat w b3, if_neg q5, e32, esz w hw, wr_add at_ (4 * w) b2, decide_eq_false q6]
  conv => lhs; unfold spec_Deltas.j4
  rw [if_neg Bool.false_ne_true]
  exact hl2
/-- The loop over a block's widths ends where nothing waits, or where there is no width left. -/
theorem l1_end (wdt : Int) (data x4 : List Int) (at_ tot : Nat) (x16 lu : Int) (ws : List Int) (hwl : ws.length = 4) (i k : Nat) (ht : tot ≤ 3000) (h : 4 ≤ i ∨ x4.length = tot) :
    spec_Deltas.l1 (k + 1) data wdt x4 128 (at_ : Int) 4 (tot : Int) x16 lu ws 4 (i : Int) = spec_Deltas.l0 k data wdt x4 128 (at_ : Int) 4 (tot : Int) x16 := by
  have b1 : tot ≤ 4000000000000 := by omega
  by_cases c : (i : Int) < 4
  · have q2 : (0 : Int) ≤ (i : Int) := by omega
    have q3 : (i : Int) < (ws.length : Int) := by omega
    have q4 : (x4.length : Int) = (tot : Int) := by omega
    conv => lhs; unfold spec_Deltas.l1
    rw [if_pos c, if_pos q2, if_pos q3, wr_nat tot b1, if_pos q4]
  · conv => lhs; unfold spec_Deltas.l1
    rw [if_neg c]
theorem wids_rd (mn : Int) (ds : List Int) (i : Nat) (hi : i < 4) : rd (wids mn ds 4) (i : Int) = ((wid mn (chunk ds i) : Nat) : Int) := by
  show (wids mn ds 4).getD (i : Int).toNat 0 = _
  rw [Int.toNat_natCast]
  match i, hi with
  | 0, _ => simp [wids, List.range_succ]
  | 1, _ => simp [wids, List.range_succ]
  | 2, _ => simp [wids, List.range_succ]
  | 3, _ => simp [wids, List.range_succ]
theorem take_chunk (ds : List Int) (i : Nat) : ds.take (32 * (i + 1)) = ds.take (32 * i) ++ chunk ds i := by
  unfold chunk
  rw [show 32 * (i + 1) = 32 * i + 32 by omega, List.take_add]
theorem drop_slice (data a b t : List Int) (p n : Nat) (h : data.drop p = a ++ t) (hn : a.length = n) : (data.take (p + n)).drop p = a ∧ data.drop (p + n) = t ∧ p + n ≤ p + (data.drop p).length := by
  refine ⟨?_, ?_, ?_⟩
  · rw [List.drop_take, h, show p + n - p = n by omega, ← hn, List.take_left]
  · rw [← List.drop_drop, h, ← hn, List.drop_left]
  · rw [h, List.length_append]; omega
theorem range4 (i : Nat) (hi : i < 4) : List.range 4 = List.range i ++ (i :: List.range' (i + 1) (3 - i)) := by
  match i, hi with
  | 0, _ => rfl
  | 1, _ => rfl
  | 2, _ => rfl
  | 3, _ => rfl
/-- The chunks of a block, one after the other. -/
theorem block_run {wdt : Int} {wr : Int → Int} (hW : Wr wdt wr) (data : List Int) (hdl : data.length < 1000000) (ds : List Int) (hf : Fit ds) (hds : ds.length ≤ 128) (at0 tot : Nat) (t x4 : List Int) (x16 : Int)
    (hdat : data.drop at0 = bodies (minL ds) ds 4 ++ t) (hat0 : at0 ≤ data.length) (hwd : ∀ i, (wid (minL ds) (chunk ds i) : Int) ≤ wdt) (h1 : ds.length = 128 ∨ x4.length + ds.length = tot) (h2 : x4.length + ds.length ≤ tot) (ht : tot ≤ 3000) (n : Nat) :
    ∀ i, n = 4 - i → i ≤ 4 → ∃ c, ∀ k, 100 ≤ k → spec_Deltas.l1 (k + c) data wdt (x4 ++ und wr x16 (ds.take (32 * i))) 128 ((at0 + (bodies (minL ds) ds i).length : Nat) : Int) 4 (tot : Int) (lst x16 (und wr x16 (ds.take (32 * i)))) (zz (minL ds) : Int) (wids (minL ds) ds 4) 4 (i : Int) =
      spec_Deltas.l0 k data wdt (x4 ++ und wr x16 ds) 128 ((at0 + (bodies (minL ds) ds 4).length : Nat) : Int) 4 (tot : Int) (lst x16 (und wr x16 ds)) := by
  have hmn := minL_is ds hf
  have hfin : ∀ i, i ≤ 4 → ds.length ≤ 32 * i → (4 ≤ i ∨ x4.length + ds.length = tot) → ∃ c, ∀ k, 100 ≤ k → spec_Deltas.l1 (k + c) data wdt (x4 ++ und wr x16 (ds.take (32 * i))) 128 ((at0 + (bodies (minL ds) ds i).length : Nat) : Int) 4 (tot : Int) (lst x16 (und wr x16 (ds.take (32 * i)))) (zz (minL ds) : Int) (wids (minL ds) ds 4) 4 (i : Int) =
      spec_Deltas.l0 k data wdt (x4 ++ und wr x16 ds) 128 ((at0 + (bodies (minL ds) ds 4).length : Nat) : Int) 4 (tot : Int) (lst x16 (und wr x16 ds)) := by
    intro i hi hle hor
    refine ⟨1, fun k hk => ?_⟩
    have e1 : ds.take (32 * i) = ds := List.take_of_length_le hle
    have e2 := bodies_end (minL ds) ds i (4 - i) hle
    rw [show i + (4 - i) = 4 by omega] at e2
    rw [e1, e2]
    refine l1_end wdt data _ _ tot _ _ _ (wids_len _ _ _) i k ht ?_
    rcases hor with h | h
    · exact .inl h
    · exact .inr (by rw [List.length_append, und_len]; exact h)
  induction n with
  | zero =>
    intro i hn hi
    have hi4 : i = 4 := by omega
    exact hfin i hi (by omega) (.inl (by omega))
  | succ n ih =>
    intro i hn hi
    by_cases hle : ds.length ≤ 32 * i
    · exact hfin i hi hle (.inr (by omega))
    · obtain ⟨c, hc⟩ := ih (i + 1) (by omega) (by omega)
      have hcl := chunk_len ds i
      have hc0 : 0 < (chunk ds i).length := by omega
      obtain ⟨hv1, hv2⟩ := chunk_vals (chunk_fit hf i) (fun d hd => hmn.2.1 d (List.mem_of_mem_drop (List.mem_of_mem_take hd))) hmn.1.1
      obtain ⟨T, hT⟩ : ∃ T, bodies (minL ds) ds 4 = bodies (minL ds) ds i ++ (body (minL ds) (chunk ds i) ++ T) := by
        refine ⟨(List.range' (i + 1) (3 - i)).flatMap fun j => body (minL ds) (chunk ds j), ?_⟩
        unfold bodies
        rw [range4 i (by omega), List.flatMap_append, List.flatMap_cons]
      have hdat2 : data.drop at0 = bodies (minL ds) ds i ++ (body (minL ds) (chunk ds i) ++ (T ++ t)) := by rw [hdat, hT, List.append_assoc, List.append_assoc]
      obtain ⟨d1, d2, d3⟩ := drop_slice data _ [] _ at0 (bodies (minL ds) ds i).length hdat2 rfl
      obtain ⟨g1, g2, g3⟩ := drop_slice data _ [] _ (at0 + (bodies (minL ds) ds i).length) (body (minL ds) (chunk ds i)).length d2 rfl
      have hbl := body_len (minL ds) (chunk ds i)
      rw [hbl] at g1 g3
      have hdl2 : (data.drop (at0 + (bodies (minL ds) ds i).length)).length = data.length - (at0 + (bodies (minL ds) ds i).length) := List.length_drop
      have hdl1 : (data.drop at0).length = data.length - at0 := List.length_drop
      have hal : at0 + (bodies (minL ds) ds i).length + 4 * wid (minL ds) (chunk ds i) ≤ data.length := by omega
      have hP : ∀ j, j < (chunk ds i).length → pack (wid (minL ds) (chunk ds i)) (vals (minL ds) (chunk ds i)) / 2 ^ (wid (minL ds) (chunk ds i) * j) % 2 ^ wid (minL ds) (chunk ds i) = ((chunk ds i).getD j 0 - minL ds).toNat ∧ minL ds ≤ (chunk ds i).getD j 0 := by
        intro j hj
        have hmem := getD_mem (ds := chunk ds i) j hj
        refine ⟨?_, hmn.2.1 _ (List.mem_of_mem_drop (List.mem_of_mem_take hmem))⟩
        rw [pack_at _ _ hv1]
        simp [vals, List.getD_eq_getElem?_getD, hj]
      have htk : (ds.take (32 * i)).length = 32 * i := by rw [List.length_take]; omega
      have hx : (x4 ++ und wr x16 (ds.take (32 * i))).length = x4.length + 32 * i := by rw [List.length_append, und_len, htk]
      have hor : (chunk ds i).length = 32 ∨ (x4 ++ und wr x16 (ds.take (32 * i))).length + (chunk ds i).length = tot := by rw [hx, hcl]; omega
      have hle2 : (x4 ++ und wr x16 (ds.take (32 * i))).length + (chunk ds i).length ≤ tot := by rw [hx, hcl]; omega
      refine ⟨c + 2 * (chunk ds i).length + 4, fun k hk => ?_⟩
      have hm := l1_mini hW data hdl (minL ds) hmn.1 (chunk ds i) (wid (minL ds) (chunk ds i)) (at0 + (bodies (minL ds) ds i).length) tot (wids (minL ds) ds 4) (wids_len _ _ _) i (by omega) (wids_rd _ _ i (by omega)) hv2 (hwd i) _ hP g1 hal (by omega) hc0 (x4 ++ und wr x16 (ds.take (32 * i))) (lst x16 (und wr x16 (ds.take (32 * i)))) (k + c) (by omega) hor hle2 ht
      rw [show k + (c + 2 * (chunk ds i).length + 4) = k + c + 2 * (chunk ds i).length + 4 by omega, hm]
      have e1 : x4 ++ und wr x16 (ds.take (32 * i)) ++ und wr (lst x16 (und wr x16 (ds.take (32 * i)))) (chunk ds i) = x4 ++ und wr x16 (ds.take (32 * (i + 1))) := by rw [take_chunk, und_append, List.append_assoc]
      have e2 : lst (lst x16 (und wr x16 (ds.take (32 * i)))) (und wr (lst x16 (und wr x16 (ds.take (32 * i)))) (chunk ds i)) = lst x16 (und wr x16 (ds.take (32 * (i + 1)))) := by rw [take_chunk, und_append, lst_append]
      have e3 : at0 + (bodies (minL ds) ds i).length + 4 * wid (minL ds) (chunk ds i) = at0 + (bodies (minL ds) ds (i + 1)).length := by rw [bodies_succ, List.length_append, hbl, Nat.add_assoc]
      rw [e1, e2, e3]
      exact hc k hk
end Go.Proofs.Ytdekingogcmboaa.Q

/- All is read back, plainly. -/
namespace Go.Proofs.Ytdekingogcmboaa.Q
open Go.RowKit Go.Proofs.YtdekingogcmboaaW.PrintWords Go.Proofs.YtdekingogcmboaaW.PrintLast Go.Proofs.YtdekingogcmboaaW.PrintMore
set_option linter.unusedVariables false
set_option linter.unusedSimpArgs false
theorem w4 : wrap64 4 = 4 := by decide +kernel
theorem l0_block {wdt : Int} {wr : Int → Int} (hW : Wr wdt wr) (data : List Int) (hdl : data.length < 1000000) (ds : List Int) (hf : Fit ds) (hds : ds.length ≤ 128) (hd0 : 0 < ds.length) (at_ tot : Nat) (t x4 : List Int) (x16 : Int)
    (hdat : data.drop at_ = block ds ++ t) (hat : at_ ≤ data.length) (hwd : ∀ i, (wid (minL ds) (chunk ds i) : Int) ≤ wdt) (h1 : ds.length = 128 ∨ x4.length + ds.length = tot) (h2 : x4.length + ds.length ≤ tot) (ht : tot ≤ 3000) :
    ∃ c, ∀ k, 100 ≤ k → spec_Deltas.l0 (k + c) data wdt x4 128 (at_ : Int) 4 (tot : Int) x16 = spec_Deltas.l0 k data wdt (x4 ++ und wr x16 ds) 128 ((at_ + (block ds).length : Nat) : Int) 4 (tot : Int) (lst x16 (und wr x16 ds)) := by
  have hmn := minL_is ds hf
  have hzlt : zz (minL ds) < 18446744073709551616 := by have := hmn.1; unfold zz; split <;> omega
  have hdat2 : data.drop at_ = leb (zz (minL ds)) ++ (wids (minL ds) ds 4 ++ (bodies (minL ds) ds 4 ++ t)) := by rw [hdat]; unfold block; rw [List.append_assoc, List.append_assoc]
  obtain ⟨a1, a2, a3⟩ := drop_slice data _ [] _ at_ (leb (zz (minL ds))).length hdat2 rfl
  obtain ⟨b1, b2, b3⟩ := drop_slice data _ [] _ (at_ + (leb (zz (minL ds))).length) 4 a2 (wids_len _ _ _)
  obtain ⟨c, hc⟩ := block_run hW data hdl ds hf hds (at_ + (leb (zz (minL ds))).length + 4) tot t x4 x16 b2 (by have e1 : (data.drop (at_ + (leb (zz (minL ds))).length)).length = data.length - (at_ + (leb (zz (minL ds))).length) := List.length_drop; have e2 : (data.drop at_).length = data.length - at_ := List.length_drop; omega) hwd h1 h2 ht 4 0 rfl (by omega)
  have e2 : (data.drop at_).length = data.length - at_ := List.length_drop
  have e3 : (data.drop (at_ + (leb (zz (minL ds))).length)).length = data.length - (at_ + (leb (zz (minL ds))).length) := List.length_drop
  have hbl : (block ds).length = (leb (zz (minL ds))).length + 4 + (bodies (minL ds) ds 4).length := by unfold block; rw [List.length_append, List.length_append, wids_len]
  have q1 : (x4.length : Int) < (tot : Int) := by omega
  have hq : at_ + (leb (zz (minL ds))).length + 4 ≤ data.length := by omega
  clear a1 a3 b3 e2 e3
  refine ⟨c + 2, fun k hk => ?_⟩
  have hck := hc k hk
  have q7 : 24 ≤ k + c + 1 := by omega
  have hleb := leb_at data hdl (zz (minL ds)) at_ (k + c + 1) _ hdat2 hzlt q7
  have b4 : tot ≤ 4000000000000 := by omega
  generalize hnx : at_ + (leb (zz (minL ds))).length = nx at *
  have q2 : ¬ (((nx + 4 : Nat) : Int) > (data.length : Int)) := by omega
  have q3 : (0 : Int) ≤ (nx : Int) := by omega
  have q4 : (nx : Int) ≤ ((nx + 4 : Nat) : Int) := by omega
  have q5 : ((nx + 4 : Nat) : Int) ≤ (data.length : Int) := by omega
  have b5 : nx + 4 ≤ 4000000000000 := by omega
  have hws : ((wids (minL ds) ds 4).length : Int) = 4 := by rw [wids_len]; rfl
  have e0 : ds.take (32 * 0) = [] := rfl
  have eb : bodies (minL ds) ds 0 = [] := rfl
  rw [e0, und_nil, lst_nil, List.append_nil, eb] at hck
  have hadd : wrap64 ((nx : Int) + 4) = ((nx + 4 : Nat) : Int) := wr_add nx 4 b5
  rw [show k + (c + 2) = k + c + 1 + 1 by omega]
  conv => lhs; unfold spec_Deltas.l0
  rw [wr_nat tot b4, if_pos q1, hleb, Option.bind_some]
  dsimp only
  rw [if_pos rfl, w4, hadd, decide_eq_false q2]
  conv => lhs; unfold spec_Deltas.j2
  rw [if_neg Bool.false_ne_true, if_pos q3, w4, hadd, if_pos q4, if_pos q5, Int.toNat_natCast, Int.toNat_natCast, b1, hws]
  rw [hbl, show at_ + ((leb (zz (minL ds))).length + 4 + (bodies (minL ds) ds 4).length) = nx + 4 + (bodies (minL ds) ds 4).length by omega]
  exact hck
/-- All blocks, one after the other. -/
theorem blocks_run {wdt : Int} {wr : Int → Int} (hW : Wr wdt wr) (data : List Int) (hdl : data.length < 1000000) (tot : Nat) (ht : tot ≤ 3000) (n : Nat) :
    ∀ (ds : List Int) (at_ : Nat) (x4 : List Int) (x16 : Int), Fit ds → (∀ b : List Int, (∀ x ∈ b, x ∈ ds) → ∀ i, (wid (minL b) (chunk b i) : Int) ≤ wdt) → ds.length ≤ n → data.drop at_ = encB (n + 1) ds → at_ ≤ data.length → x4.length + ds.length = tot →
      ∃ c, ∀ k, 100 ≤ k → spec_Deltas.l0 (k + c) data wdt x4 128 (at_ : Int) 4 (tot : Int) x16 = some (x4 ++ und wr x16 ds, (data.length : Int), true) := by
  induction n with
  | zero =>
    intro ds at_ x4 x16 hf hwd hn hdat hat htot
    have hds : ds = [] := List.eq_nil_of_length_eq_zero (by omega)
    subst hds
    have hlen := congrArg List.length hdat
    have e0 : encB (0 + 1) [] = [] := rfl
    rw [e0, List.length_drop, List.length_nil] at hlen
    have hat2 : at_ = data.length := by omega
    have q1 : ¬ ((x4.length : Int) < (tot : Int)) := by have := htot; simp at this; omega
    have b1 : tot ≤ 4000000000000 := by omega
    refine ⟨1, fun k hk => ?_⟩
    conv => lhs; unfold spec_Deltas.l0
    rw [wr_nat tot b1, if_neg q1, und_nil, List.append_nil, hat2]
  | succ n ih =>
    intro ds at_ x4 x16 hf hwd hn hdat hat htot
    by_cases hds : ds = []
    · subst hds
      have hlen := congrArg List.length hdat
      have e0 : encB (n + 1 + 1) [] = [] := rfl
      rw [e0, List.length_drop, List.length_nil] at hlen
      have hat2 : at_ = data.length := by omega
      have q1 : ¬ ((x4.length : Int) < (tot : Int)) := by have := htot; simp at this; omega
      have b1 : tot ≤ 4000000000000 := by omega
      refine ⟨1, fun k hk => ?_⟩
      conv => lhs; unfold spec_Deltas.l0
      rw [wr_nat tot b1, if_neg q1, und_nil, List.append_nil, hat2]
    · have hpos : 0 < ds.length := List.length_pos_iff.2 hds
      have hen : encB (n + 1 + 1) ds = block (ds.take 128) ++ encB (n + 1) (ds.drop 128) := by
        conv => lhs; unfold encB
        rw [if_neg hds]
      rw [hen] at hdat
      have htl : (ds.take 128).length = min 128 ds.length := List.length_take
      have hdlen : (ds.drop 128).length = ds.length - 128 := List.length_drop
      have hft : Fit (ds.take 128) := fun x hx => hf x (List.mem_of_mem_take hx)
      obtain ⟨c1, h1⟩ := l0_block hW data hdl (ds.take 128) hft (by omega) (by omega) at_ tot _ x4 x16 hdat hat (hwd _ (fun x hx => List.mem_of_mem_take hx)) (by omega) (by omega) ht
      obtain ⟨d1, d2, d3⟩ := drop_slice data _ [] _ at_ (block (ds.take 128)).length hdat rfl
      have e2 : (data.drop at_).length = data.length - at_ := List.length_drop
      obtain ⟨c2, h2⟩ := ih (ds.drop 128) (at_ + (block (ds.take 128)).length) (x4 ++ und wr x16 (ds.take 128)) (lst x16 (und wr x16 (ds.take 128))) (fun x hx => hf x (List.mem_of_mem_drop hx)) (fun b hb => hwd b (fun x hx => List.mem_of_mem_drop (hb x hx))) (by omega) d2 (by omega) (by rw [List.length_append, und_len]; omega)
      refine ⟨c2 + c1, fun k hk => ?_⟩
      rw [show k + (c2 + c1) = k + c2 + c1 by omega, h1 (k + c2) (by omega), h2 k hk, List.append_assoc, ← und_append, List.take_append_drop]
theorem und_dif (wr : Int → Int) (hw : ∀ a b : Int, wr (a + wr (b - a)) = wr b) (c : Int) (l : List Int) (h : ∀ x ∈ l, wr x = x) : und wr c (dif wr c l) = l := by
  induction l generalizing c with
  | nil => rfl
  | cons x l ih =>
    have hx := h x List.mem_cons_self
    show wr (c + wr (x - c)) :: und wr (wr (c + wr (x - c))) (dif wr x l) = _
    rw [hw, hx, ih x (fun y hy => h y (List.mem_cons_of_mem _ hy))]
theorem t128 : Int.tmod 128 128 = 0 := by decide
theorem t4 : Int.tmod 128 4 = 0 := by decide
theorem t32 : Int.tmod (IntKind.u64.wrap (Int.tdiv 128 4)) 32 = 0 := by decide +kernel
/-- What was written is read back. -/
theorem deltas_is {wdt : Int} {wr : Int → Int} (hW : Wr wdt wr) (first : Int) (rest : List Int) (hfi : -9223372036854775808 ≤ first ∧ first ≤ 9223372036854775807) (hl : rest.length ≤ 1999) (hwf : ∀ x, -9223372036854775808 ≤ wr x ∧ wr x ≤ 9223372036854775807) (hid : ∀ x ∈ first :: rest, wr x = x) (hw2 : ∀ a b : Int, wr (a + wr (b - a)) = wr b)
    (hwd : ∀ b : List Int, (∀ x ∈ b, x ∈ dif wr first rest) → ∀ i, (wid (minL b) (chunk b i) : Int) ≤ wdt) (hdl : (encAll wr (first :: rest)).length < 1000000) :
    ∃ c, ∀ k, 100 ≤ k → spec_Deltas.f (k + c) (encAll wr (first :: rest)) wdt = some (first :: rest, ((encAll wr (first :: rest)).length : Int), true) := by
  have hdat : (encAll wr (first :: rest)).drop 0 = leb 128 ++ (leb 4 ++ (leb (rest.length + 1) ++ (leb (zz first) ++ encB (rest.length + 1) (dif wr first rest)))) := by
    show hdr (rest.length + 1) first ++ encB (rest.length + 1) (dif wr first rest) = _
    unfold hdr
    rw [List.append_assoc, List.append_assoc, List.append_assoc]
  generalize encAll wr (first :: rest) = data at hdat hdl ⊢
  obtain ⟨_, a2, _⟩ := drop_slice data _ [] _ 0 (leb 128).length hdat rfl
  obtain ⟨_, b2, _⟩ := drop_slice data _ [] _ _ (leb 4).length a2 rfl
  obtain ⟨_, c2, _⟩ := drop_slice data _ [] _ _ (leb (rest.length + 1)).length b2 rfl
  obtain ⟨_, d2, _⟩ := drop_slice data _ [] _ _ (leb (zz first)).length c2 rfl
  have hz : zz first < 18446744073709551616 := by unfold zz; split <;> omega
  generalize hp4 : 0 + (leb 128).length + (leb 4).length + (leb (rest.length + 1)).length + (leb (zz first)).length = p4 at d2
  have hple : p4 ≤ data.length := by
    have := congrArg List.length hdat
    simp only [List.length_append, List.drop_zero] at this
    omega
  have hde : encB (rest.length + 1) (dif wr first rest) = encB ((dif wr first rest).length + 1) (dif wr first rest) := by rw [dif_len]
  rw [hde] at d2
  obtain ⟨c, hc⟩ := blocks_run hW data hdl (rest.length + 1) (by omega) (dif wr first rest).length (dif wr first rest) p4 [first] first (dif_fit wr hwf first rest) hwd (Nat.le_refl _) d2 hple (by rw [dif_len]; simp; omega)
  rw [und_dif wr hw2 first rest (fun x hx => hid x (List.mem_cons_of_mem _ hx))] at hc
  refine ⟨c + 1, fun k hk => ?_⟩
  have hck := hc k hk
  have g1 : spec_leb.f (k + c + 1) data 0 = some ((128 : Int), ((0 + (leb 128).length : Nat) : Int), true) := leb_at data hdl 128 0 (k + c + 1) _ hdat (by omega) (by omega)
  have g2 : spec_leb.f (k + c + 1) data ((0 + (leb 128).length : Nat) : Int) = some ((4 : Int), ((0 + (leb 128).length + (leb 4).length : Nat) : Int), true) := leb_at data hdl 4 _ (k + c + 1) _ a2 (by omega) (by omega)
  have g3 := leb_at data hdl (rest.length + 1) _ (k + c + 1) _ b2 (by omega) (by omega)
  have g4 := leb_at data hdl (zz first) _ (k + c + 1) _ c2 hz (by omega)
  rw [hp4] at g4
  have q1 : ¬ (((rest.length + 1 : Nat) : Int) > 1048576) := by omega
  have q2 : ¬ (((rest.length + 1 : Nat) : Int) = 0) := by omega
  have hu := unzig_is first hfi.1 hfi.2
  have hw := hW.wt first
  rw [hid first List.mem_cons_self] at hw
  rw [show k + (c + 1) = k + c + 1 by omega]
  unfold spec_Deltas.f
  rw [g1, Option.bind_some]
  dsimp only
  rw [g2, Option.bind_some]
  dsimp only
  rw [g3, Option.bind_some]
  dsimp only
  rw [g4, Option.bind_some]
  dsimp only
  rw [if_pos rfl, if_pos rfl, if_pos rfl, if_pos rfl, if_neg (by decide), if_pos t128, if_neg (by decide), if_neg (by decide), if_pos t4, if_pos t32, decide_eq_false q1]
  conv => lhs; unfold spec_Deltas.j0
  dsimp only
  rw [if_neg Bool.false_ne_true, if_neg q2, hu, Option.bind_some, hw, Option.bind_some, if_pos (by decide)]
  exact hck
end Go.Proofs.Ytdekingogcmboaa.Q
