/- Several texts of ours in one: HD. -/
import Derived.Test.YtiieljnllgeoeaaGreatHk
/- impl.DictionaryInt32Written. -/
namespace Go.Proofs.YtiieljnllgeoeaaGreat.Q
open Go.RowKit Go.Proofs.YtiieljnllgeoeaaGreatW.PrintWords Go.Proofs.YtiieljnllgeoeaaGreatW.PrintLast Go.Proofs.YtiieljnllgeoeaaGreatW.PrintMore
set_option linter.unusedVariables false
set_option linter.unusedSimpArgs false
theorem idle_calls (a b c d : Addr) (w : World) :
  CallsD Tryz.prog 13 #[.pointer (some a), .pointer (some b), .pointer (some c), .pointer (some d)] .returning w fun e u' w' => e = .returned (.tuple #[]) ∧ u' = .returning ∧ w' = w := by
 refine callsD_of_wpS Tryz.func13 rfl fun c₀ cs hu => ?_
 apply wpS_seq
 apply wpS_region
 simp [wpOpsS, go_sem, recoverD, hu, Tryz.ntmps13, Exit.thenS]
 refine wpS_cond (t := false) (by simp [Act.eval, Array.replicate]) ?_
 simp only [Bool.false_eq_true, if_false]
 refine wpS_of_wp (wp_skip ?_)
 cases c₀
 simp_all [bodyPostS, results, Tryz.results13]
theorem listInt32_is (xs : List S29) (hl : xs.length ≤ 500) : ∀ k acc i, i ≤ xs.length → acc.length ≤ i → xs.length - i < k → impl_listInt32.l0 k acc xs (xs.length : Int) (i : Int) = some (acc ++ (xs.drop i).map fun x => wrap32 x.f1) := by
 intro k
 induction k with
 | zero => intro acc i _ _ h; omega
 | succ k ih =>
  intro acc i h1 h2 h3
  by_cases c : i < xs.length
  ·have hw : wrap64 ((i : Int) + 1) = ((i + 1 : Nat) : Int) := by unfold wrap64; omega
   have hr : (rd_T29 xs (i : Int)).f1 = (xs[i]).f1 := by
    show (xs.getD (i : Int).toNat z29).f1 = _
    rw [Int.toNat_natCast, List.getD_eq_getElem?_getD, List.getElem?_eq_getElem c]; rfl
   unfold impl_listInt32.l0
   rw [if_pos (by omega), if_pos (by omega), if_pos (by omega), if_pos (by omega), hw, ih _ _ (by omega) (by simp; omega) (by omega), hr]
   have hd : xs.drop i = xs[i] :: xs.drop (i + 1) := List.drop_eq_getElem_cons c
   rw [hd]
   simp only [List.map_cons, List.append_assoc, List.singleton_append]
  ·unfold impl_listInt32.l0
   rw [if_neg (by omega)]
   simp [show i = xs.length by omega]
/-- The numbers of some values, of some parts. -/
def valsOf (l : List S29) : List Int := l.map fun x => wrap32 x.f1
def partsOf (l0 : List (List S29)) : List Int := l0.flatMap valsOf
theorem partsOf_step (l0 : List (List S29)) (i : Nat) (h : i < l0.length) : partsOf (l0.take (i + 1)) = partsOf (l0.take i) ++ valsOf (rd_L6 l0 (i : Int)) := by
 have e : l0.take (i + 1) = l0.take i ++ [rd_L6 l0 (i : Int)] := by
  show _ = l0.take i ++ [l0.getD (i : Int).toNat []]
  rw [Int.toNat_natCast, List.take_succ_eq_append_getElem h, List.getD_eq_getElem?_getD, List.getElem?_eq_getElem h]
  rfl
 rw [e]
 simp [partsOf]
theorem partsOf_le (l0 : List (List S29)) (i : Nat) : (partsOf (l0.take i)).length ≤ (partsOf l0).length := by
 have e : partsOf l0 = partsOf (l0.take i) ++ partsOf (l0.drop i) := by
  unfold partsOf
  rw [← List.flatMap_append, List.take_append_drop]
 rw [e, List.length_append]
 omega
/-- The parts that are spoken of. -/
def FairK (l0 : List (List S29)) : Prop := l0.length ≤ 60 ∧ (∀ p ∈ l0, p.length ≤ 500) ∧ (partsOf l0).length ≤ 1000 ∧ 0 < (partsOf l0).length
instance (l0 : List (List S29)) : Decidable (FairK l0) := by unfold FairK; infer_instance
def dictN (l0 : List (List S29)) : Nat := (dist (partsOf l0)).length
def dictB (l0 : List (List S29)) : List Int := (dist (partsOf l0)).flatMap le4m
def dictD (l0 : List (List S29)) : List Int := ((wdof (dictN l0) : Nat) : Int) :: enc (wdof (dictN l0)) (nums (partsOf l0))
def impl_DictionaryInt32Written.f (l0 : List (List S29)) : Option (List Int × Int × List Int × Bool) := if FairK l0 then some (dictB l0, (dictN l0 : Int), dictD l0, true) else none
theorem Dk.low {w w1 : World} {lo E T H M S : Nat} {a : Option Addr} {c : Nat} {es : List Ent} {P : List Int} (h : Dk w lo E T H M S a c es P) (b : Below w.heap.size w w1) : Dk w1 lo E T H M S a c es P := by
 obtain ⟨⟨raw, d⟩, iv, tb, sz, hc⟩ := h
 refine ⟨⟨raw, d.low b⟩, ?_, tb, sz, hc⟩
 rcases iv with iv | ⟨I, h1, h2⟩
 ·exact .inl iv
 ·exact .inr ⟨I, h1, h2.low b⟩
/-- A slice of numbers that was handed over: a block of its own. -/
theorem inr_of_R {W : World} {b : Nat} {v : Value} {xs : List Int} (h : Kd.R (Kd.int .i32) 21 W b (fun _ => True) v xs) (h0 : 0 < xs.length) : ∃ G cap, v = .slice (some ⟨G, 0, none⟩) xs.length cap ∧ InR W G xs ∧ b ≤ G := by
 obtain ⟨e, h1⟩ := Kd.own_of_R h
 rcases h1 with ⟨_, h2⟩ | ⟨g, cap, cur, h1, h2, h3, h4, h5, h6, h7⟩
 ·omega
 ·refine ⟨g, cap, h1, ⟨cur, h3, ?_⟩, h2⟩
  rw [Nat.mul_one] at h7
  exact h7
theorem Dc.hi {w w' : World} {lo E T H M : Nat} {es : List Ent} {n S : Nat} {ds : Int} {iv : Value} {raw : Int} (h : Dc w lo E T H M es n S ds iv raw) (f : ∀ g, lo ≤ g → g < w.heap.size → w'.heap[g]? = w.heap[g]?) : Dc w' lo E T H M es n S ds iv raw :=
 ⟨(f _ h.le (blk_lt h.e)).trans h.e, h.le, ⟨(f _ h.mm.lt (blk_lt h.mm.t)).trans h.mm.t, h.mm.lt, ⟨(f _ h.mm.tab.lh (blk_lt h.mm.tab.h)).trans h.mm.tab.h, (f _ h.mm.tab.lm (blk_lt h.mm.tab.m)).trans h.mm.tab.m, h.mm.tab.lh, h.mm.tab.lm⟩⟩⟩
theorem Ix.hi {w w' : World} {lo I c : Nat} {V : List Nat} (h : Ix w lo I c V) (f : ∀ g, lo ≤ g → g < w.heap.size → w'.heap[g]? = w.heap[g]?) : Ix w' lo I c V := by
 obtain ⟨cs, hr, ht, hs⟩ := h.r
 exact ⟨⟨cs, (f _ h.lo (blk_lt hr)).trans hr, ht, hs⟩, h.le, h.lo⟩
theorem fit_of {es : List Ent} {D : List Int} (h : Tb hh es D) : FitO es (4 * D.length) := by
 intro e he h0
 obtain ⟨k, h1, h2, _⟩ := h.inv.inn e he h0
 have := (List.getElem?_eq_some_iff.1 h1).1
 exact ⟨k, h2, by omega⟩
theorem take_own (x : Int) (dn : List Int) (r : Nat) : (x :: (dn ++ List.replicate r 0)).take (dn.length + 1) = x :: dn := by simp
/-- What is there already, stored again. -/
theorem set_same {w : World} {g : Nat} {t : TypeId} {cs : Array Value} (h : w.heap[g]? = some (.cells cs t (0, 0))) (i : Nat) (v : Value) (hv : cs[i]? = some v) : w.setCell ⟨g, i, none⟩ v = w := by
 have hh : (w.setCell ⟨g, i, none⟩ v).heap = w.heap := by
  apply Array.ext_getElem?
  intro k
  by_cases c : k = g
  ·subst c
   rw [blk_set h i v, h]
   obtain ⟨hl, hp⟩ := Array.getElem?_eq_some_iff.1 hv
   congr 2
   apply Array.ext_getElem?
   intro m
   rw [Array.getElem?_setIfInBounds]
   split
   ·rename_i e; subst e; first | rw [if_pos hl, hv] | exact hv.symm
   ·rfl
  ·exact Below.heap_setCell w ⟨g, i, none⟩ v k c
 have e : w.setCell ⟨g, i, none⟩ v = { w with heap := (w.setCell ⟨g, i, none⟩ v).heap } := rfl
 rw [e, hh]
theorem flat4 (D : List Int) : (D.flatMap le4m).length = 4 * D.length := by
 induction D with
 | nil => rfl
 | cons d D ih => rw [List.flatMap_cons, List.length_append, ih, le4m_len, List.length_cons]; omega
theorem dist_pos (P : List Int) (h : 0 < P.length) : 0 < (dist P).length := by
 have hnl := nums_len P
 cases e : nums P with
 | nil => rw [e] at hnl; simp at hnl; omega
 | cons v vs => have := nums_lt P v (by rw [e]; exact List.mem_cons_self); omega
set_option maxHeartbeats 8000000 in
set_option maxRecDepth 100000 in
theorem dict_walk (A0 : Option Addr) (c0 : Nat) (l0 : List (List S29)) (w : World) (hr0 : Kd.C (Kd.slice 29 k29) w A0 l0.length l0) (hc0 : l0.length ≤ c0) (hf : FairK l0) :
  Calls Tryz.prog 4 #[.slice A0 l0.length c0] w fun e w' => ∃ v0_ v2_ : Value, e = .returned (.tuple #[v0_, .int .i64 (dictN l0 : Int), v2_, .bool true]) ∧ Kd.R (Kd.int .u8) 5 w' w.heap.size (fun k_ => some k_ ≠ (v2_ : Value).ownBlock) v0_ (dictB l0) ∧ Kd.R (Kd.int .u8) 5 w' w.heap.size (fun k_ => some k_ ≠ (v0_ : Value).ownBlock) v2_ (dictD l0) ∧ Below w.heap.size w w' := by
 have HR0 := Aside0.mk hr0
 have HC0 := Aside0.mk hc0
 have HF := Aside0.mk hf
 clear hr0 hc0 hf
 obtain ⟨W2, hW2⟩ : ∃ W2, W2 = (((w.alloc (.cells #[.slice none 0 0] 23)).alloc (.cells #[.int .i64 0] 3)).alloc (.cells #[.slice none 0 0] 23)).alloc (.cells #[.bool false] 4) := ⟨_, rfl⟩
 have h2 : Below w.heap.size w W2 := by rw [hW2]; exact below_alloc (below_alloc (below_alloc (below_alloc (Below.refl _ _) _) _) _) _
 have k0 : W2.heap[w.heap.size]? = some (.cells #[.slice none 0 0] 23 (0, 0)) := by rw [hW2]; exact blk_alloc (blk_alloc (blk_alloc (blk_new w _) _) _) _
 have k1 : W2.heap[w.heap.size + 1]? = some (.cells #[.int .i64 0] 3 (0, 0)) := by rw [hW2]; exact blk_alloc (blk_alloc (blk_at _ _ _ (by simp)) _) _
 have k2 : W2.heap[w.heap.size + 1 + 1]? = some (.cells #[.slice none 0 0] 23 (0, 0)) := by rw [hW2]; exact blk_alloc (blk_at _ _ _ (by simp)) _
 have k3 : W2.heap[w.heap.size + 1 + 1 + 1]? = some (.cells #[.bool false] 4 (0, 0)) := by rw [hW2]; exact blk_at _ _ _ (by simp)
 have ks : W2.heap.size = w.heap.size + 4 := by rw [hW2]; simp
 have HK := Aside0.mk (And.intro h2 (And.intro k0 (And.intro k1 (And.intro k2 (And.intro k3 ks)))))
 have HN := Aside0.mk (newdk_calls W2)
 have HW2 := Aside0.mk hW2
 rw [hW2] at HN
 clear h2 k0 k1 k2 k3 ks hW2
 go_enter_defers Tryz.func4, Tryz.ntmps4
 go_wp2_with (first | (go_at_call 14; go_loud (refine HN.out.mono ?_; rintro e w1 ⟨E, T, H, M, S, rfl, hm, hb⟩; have HM := Aside0.mk (And.intro hm hb); clear hm hb)))
 have hgen := HW2.out
 rw [← hgen] at HM
 clear hgen HN HW2
 go_loopg [15] (l0.length + 1) (fun kq v15 w' => ∃ (i M' c' : Nat) (a' : Option Addr) (es' : List Ent), v15 = .int .i64 (i : Int) ∧ Aside0 (i + kq = l0.length + 1) ∧ Aside0 (i ≤ l0.length) ∧ Aside0 (Dk w' W2.heap.size E T H M' S a' c' es' (partsOf (l0.take i)) ∧ Below W2.heap.size W2 w'))
 case atStart => exact ⟨0, M, 0, none, List.replicate 64 e0, rfl, ⟨by omega⟩, ⟨by omega⟩, ⟨by simpa [partsOf] using HM.out⟩⟩
 case round =>
  obtain ⟨i, M', c', a', es', rfl, HKK, HI, HV⟩ := hrel
  cases gk with
  | zero => exact absurd HKK.out (by have := HI.out; omega)
  | succ k1 =>
   by_cases c2 : (i : Int) < (l0.length : Int)
   ·have c2b : decide ((i : Int) < (l0.length : Int)) = true := decide_eq_true c2
    have c2n : decide (i < l0.length) = true := decide_eq_true (by omega)
    have hB : Below w.heap.size w wr := HK.out.1.trans (HV.out.2.mono (by rw [HK.out.2.2.2.2.2]; omega))
    obtain ⟨ad, A1, c1, rfl, hc, hl1, hC⟩ := at_L6 (Kd.C_below HR0.out hB) (i : Int) (by omega) (by omega)
    rw [Int.toNat_natCast] at hc
    have hm : rd_L6 l0 (i : Int) ∈ l0 := by
     show l0.getD (i : Int).toNat _ ∈ l0
     rw [Int.toNat_natCast, List.getD_eq_getElem?_getD, List.getElem?_eq_getElem (by omega)]
     exact List.getElem_mem _
    have hp5 := HF.out.2.1 _ hm
    have HLI := Aside0.mk (impl_listInt32.calls ((rd_L6 l0 (i : Int)).length + 1) A1 c1 (rd_L6 l0 (i : Int)) (valsOf (rd_L6 l0 (i : Int))) wr hC hl1 (by
     have := listInt32_is (rd_L6 l0 (i : Int)) hp5 ((rd_L6 l0 (i : Int)).length + 1) [] 0 (by omega) (by simp) (by omega)
     exact this))
    have g0 : (0 : Int) ≤ (i : Int) := by omega
    have hst := partsOf_step l0 i (by omega)
    have hle := partsOf_le l0 (i + 1)
    rw [hst, List.length_append] at hle
    have hsum : (partsOf (l0.take i)).length + (valsOf (rd_L6 l0 (i : Int))).length ≤ 1000 := by have := HF.out.2.2.1; omega
    have HST := Aside0.mk hst
    have HP := Aside0.mk (fun (A : Option Addr) (cap : Nat) (W : World) (b : Below wr.heap.size wr W) (hr : Kd.R (Kd.int .i32) 21 W wr.heap.size (fun _ => True) (.slice A (valsOf (rd_L6 l0 (i : Int))).length cap) (valsOf (rd_L6 l0 (i : Int)))) =>
     putd_calls (HV.out.1.low b) A cap (valsOf (rd_L6 l0 (i : Int))) (fun h0 => by
      obtain ⟨A', n', e', g1⟩ := inr_of_R hr h0
      cases e'
      refine ⟨A', rfl, g1.1, fun I hI => ?_⟩
      rcases HV.out.1.iv with iv | ⟨I', h1, h2⟩
      ·rw [iv.1] at hI; cases hI
      ·rw [h1] at hI
       cases hI
       obtain ⟨cs, h3, _⟩ := h2.r
       have := blk_lt h3
       have := g1.2
       omega) hsum)
    generalize valsOf (rd_L6 l0 (i : Int)) = xs at HLI HP HST
    clear hle hm hC HM hst hsum hB
    go_wp2_with (first | (go_at_call 16; refine HLI.out.mono ?_; go_loud (rintro e w2 ⟨v0, rfl, r1, b1⟩; obtain ⟨A2, c2', rfl⟩ := Kd.R_slice r1; have HPP := Aside0.mk (HP.out A2 c2' w2 b1 r1); have B1 := Aside0.mk b1; clear r1 b1)) | (go_at_call 15; refine HPP.out.mono ?_; rintro e w3 ⟨rfl, M3, a3, c3, es3, d3, b3⟩; have E1 := Aside0.mk (And.intro d3 b3); clear d3 b3))
    go_roundg k1
    case measure => have := HKK.out; omega
    case rel => exact ⟨i + 1, M3, c3, a3, es3, (by have hwi : wrap64 ((i : Int) + 1) = (i : Int) + 1 := (by have := HF.out.1; unfold wrap64; omega); simp [hwi]), ⟨by have := HKK.out; omega⟩, ⟨by omega⟩, ⟨by rw [HST.out]; exact E1.out.1, (HV.out.2.trans (B1.out.mono HV.out.2.size)).trans E1.out.2⟩⟩
   ·have c2b : decide ((i : Int) < (l0.length : Int)) = false := decide_eq_false c2
    have c2n : decide (i < l0.length) = false := decide_eq_false (by omega)
    have hi : i = l0.length := by have := HI.out; omega
    subst hi
    rw [List.take_length] at HV
    obtain ⟨⟨raw, hd⟩, hiv, htb, hsz, hcc⟩ := HV.out.1
    have hP0 := HF.out.2.2.2
    have hP1 := HF.out.2.2.1
    have hnl := nums_len (partsOf l0)
    have hdl := dist_len (partsOf l0)
    have hD0 := dist_pos _ hP0
    have hvl := nums_lt (partsOf l0)
    have hBB := HV.out.2
    have hlo := hd.lot
    obtain ⟨hk, k0, k1, k2, k3, ks⟩ := HK.out
    have k0 := (hBB.block _ (blk_lt k0)).trans k0
    have k1 := (hBB.block _ (blk_lt k1)).trans k1
    have k2 := (hBB.block _ (blk_lt k2)).trans k2
    have k3 := (hBB.block _ (blk_lt k3)).trans k3
    obtain ⟨I, hI1, hI2⟩ : ∃ I, a' = some ⟨I, 0, none⟩ ∧ Ix wr W2.heap.size I c' (nums (partsOf l0)) := by
     rcases hiv with iv | h
     ·have := iv.2.2; rw [this] at hnl; simp at hnl; omega
     ·exact h
    subst hI1
    have eB : dictB l0 = (dist (partsOf l0)).flatMap le4m := rfl
    have eN : dictN l0 = (dist (partsOf l0)).length := rfl
    have eD : dictD l0 = ((wdof (dist (partsOf l0)).length : Nat) : Int) :: enc (wdof (dist (partsOf l0)).length) (nums (partsOf l0)) := rfl
    have hB := hk.trans (hBB.mono (by omega))
    clear hiv HV HI HKK HF HC0 HR0 hBB hk c2 hcc
    generalize dist (partsOf l0) = D at *
    generalize nums (partsOf l0) = V at *
    have EQ := Aside0.mk (And.intro eB (And.intro eN eD))
    clear eB eN eD
    obtain ⟨n4, hn4⟩ : ∃ n4, n4 = 4 * D.length := ⟨_, rfl⟩
    have hcast : (4 * (D.length : Int)) = (n4 : Int) := by omega
    rw [hcast] at hd
    have hmk := make_bytes n4 (by omega)
    have HDS := Aside0.mk (dsize_calls hd)
    obtain ⟨W3, hW3⟩ : ∃ W3, W3 = (wr.alloc (zeros n4)).setCell ⟨w.heap.size, 0, none⟩ (.slice (some ⟨wr.heap.size, 0, none⟩) n4 n4) := ⟨_, rfl⟩
    have g3 : ∀ g, W2.heap.size ≤ g → g < wr.heap.size → W3.heap[g]? = wr.heap[g]? := by
     intro g h1 h2
     rw [hW3]
     exact (Below.heap_setCell _ ⟨w.heap.size, 0, none⟩ _ g (by show g ≠ w.heap.size; omega)).trans ((below_alloc (Below.refl wr.heap.size wr) _).block g h2)
    have r3 : Row W3 wr.heap.size (List.replicate n4 0) := by rw [hW3]; exact blk_far (row_zeros wr n4) (p := ⟨w.heap.size, 0, none⟩) (by show wr.heap.size ≠ w.heap.size; omega) _
    have d3 := hd.hi g3
    have x3 : W3.heap[w.heap.size]? = some (.cells #[.slice (some ⟨wr.heap.size, 0, none⟩) n4 n4] 23 (0, 0)) := by rw [hW3]; exact blk_set (blk_alloc k0 _) 0 _
    have x1 : W3.heap[w.heap.size + 1]? = some (.cells #[.int .i64 0] 3 (0, 0)) := by rw [hW3]; exact blk_far (blk_alloc k1 _) (p := ⟨w.heap.size, 0, none⟩) (by show w.heap.size + 1 ≠ w.heap.size; omega) _
    have x2 : W3.heap[w.heap.size + 1 + 1]? = some (.cells #[.slice none 0 0] 23 (0, 0)) := by rw [hW3]; exact blk_far (blk_alloc k2 _) (p := ⟨w.heap.size, 0, none⟩) (by show w.heap.size + 1 + 1 ≠ w.heap.size; omega) _
    have x4 : W3.heap[w.heap.size + 1 + 1 + 1]? = some (.cells #[.bool false] 4 (0, 0)) := by rw [hW3]; exact blk_far (blk_alloc k3 _) (p := ⟨w.heap.size, 0, none⟩) (by show w.heap.size + 1 + 1 + 1 ≠ w.heap.size; omega) _
    have b3 : Below w.heap.size w W3 := by rw [hW3]; exact Below.setCell (p := ⟨w.heap.size, 0, none⟩) (hB.trans ((below_alloc (Below.refl _ _) _).mono (by omega))) (Nat.le_refl _) _
    have hwd := wdict_calls d3 r3 (by rw [List.length_replicate, hn4]; exact fit_of htb) (by rw [List.length_replicate]; omega) (by omega)
    rw [wrs_all le4m_len hh_b htb _ (by rw [List.length_replicate]; exact hn4), List.length_replicate] at hwd
    have s0 : W3.cell? ⟨w.heap.size, 0, none⟩ = some (.slice (some ⟨wr.heap.size, 0, none⟩) n4 n4) := (blk_cell x3 0).trans rfl
    have i3 := hI2.hi g3
    have hen := (fun w4 (ox : OnlyX wr.heap.size W3 w4) => entries_calls (hd.hi (fun g h1 h2 => (ox.2.block g h2).trans (g3 g h1 h2))) (show D.length < 1000000 by omega))
    have hc1 := (fun w4 (ox : OnlyX wr.heap.size W3 w4) => (ox.2.block (w.heap.size + 1) (by omega)).trans x1)
    rw [hW3] at hwd s0
    have HWD := Aside0.mk hwd
    have HEN := Aside0.mk hen
    have HC1 := Aside0.mk hc1
    have t0 : (wr.alloc (zeros n4)).cell? ⟨w.heap.size, 0, none⟩ = some (.slice none 0 0) := (blk_cell (blk_alloc k0 _) 0).trans rfl
    have z0 := blk_frozen (blk_alloc k0 (zeros n4)) 0
    have ALL := Aside0.mk (And.intro hd (And.intro hI2 (And.intro g3 (And.intro x3 (And.intro x1 (And.intro x2 (And.intro x4 b3)))))))
    have LN := Aside0.mk (And.intro hP1 (And.intro hnl (And.intro hdl (And.intro hD0 (And.intro hvl (And.intro hlo (And.intro ks hn4)))))))
    have HW3 := Aside0.mk hW3
    clear hd hI2 g3 x3 x1 x2 x4 b3 hP1 hnl hdl hD0 hvl hlo ks hn4 hW3 hwd hen hc1 hP0 htb hsz hB hcast r3 d3 i3 k0 k1 k2 k3 HK
    go_upto_region 11 with (first | (go_at_call 17; go_loud (refine HDS.out.mono ?_; rintro e w2 ⟨rfl, hw2⟩; subst w2)) | (go_at_call 18; go_loud (refine HWD.out.mono ?_; rintro e w4 ⟨rfl, row4, ox4⟩; rw [← HW3.out] at ox4; have q4 := HC1.out w4 ox4; have y1 : w4.cell? ⟨w.heap.size + 1, 0, none⟩ = some (.int .i64 0) := (blk_cell q4 0).trans rfl; have z1 := blk_frozen q4 0; have HE4 := Aside0.mk (HEN.out w4 ox4); have R4 := Aside0.mk (And.intro row4 ox4); clear row4 ox4 q4)) | (go_at_call 19; go_loud (refine HE4.out.mono ?_; rintro e w5 ⟨rfl, m5, hw5⟩; subst w5)))
    obtain ⟨row4, ox4⟩ := R4.out
    obtain ⟨hd, hI2, g3, x3, x1, x2, x4, b3⟩ := ALL.out
    obtain ⟨hP1, hnl, hdl, hD0, hvl, hlo, ks, hn4⟩ := LN.out
    have g4 : ∀ g, W2.heap.size ≤ g → g < wr.heap.size → w4.heap[g]? = wr.heap[g]? := fun g h1 h2 => (ox4.2.block g h2).trans (g3 g h1 h2)
    have g5 : ∀ g, W2.heap.size ≤ g → g < wr.heap.size → ((w4.drewN m5).setCell ⟨w.heap.size + 1, 0, none⟩ (.int .i64 (D.length : Int))).heap[g]? = wr.heap[g]? := fun g h1 h2 => (Below.heap_setCell _ ⟨w.heap.size + 1, 0, none⟩ _ g (by show g ≠ w.heap.size + 1; omega)).trans (g4 g h1 h2)
    have d5 := hd.hi g5
    have i5 := hI2.hi g5
    have y0 := blk_far (w := w4.drewN m5) ((ox4.2.block _ (by omega)).trans x3) (p := ⟨w.heap.size + 1, 0, none⟩) (show w.heap.size ≠ w.heap.size + 1 by omega) (.int .i64 (D.length : Int))
    have y1 := blk_set (w := w4.drewN m5) ((ox4.2.block _ (by omega)).trans x1) 0 (.int .i64 (D.length : Int))
    have y2 := blk_far (w := w4.drewN m5) ((ox4.2.block _ (by omega)).trans x2) (p := ⟨w.heap.size + 1, 0, none⟩) (show w.heap.size + 1 + 1 ≠ w.heap.size + 1 by omega) (.int .i64 (D.length : Int))
    have y3 := blk_far (w := w4.drewN m5) ((ox4.2.block _ (by omega)).trans x4) (p := ⟨w.heap.size + 1, 0, none⟩) (show w.heap.size + 1 + 1 + 1 ≠ w.heap.size + 1 by omega) (.int .i64 (D.length : Int))
    have r5 := blk_far (w := w4.drewN m5) row4 (p := ⟨w.heap.size + 1, 0, none⟩) (show wr.heap.size ≠ w.heap.size + 1 by omega) (.int .i64 (D.length : Int))
    have b5 : Below w.heap.size w ((w4.drewN m5).setCell ⟨w.heap.size + 1, 0, none⟩ (.int .i64 (D.length : Int))) := Below.setCell (p := ⟨w.heap.size + 1, 0, none⟩) ((b3.trans (ox4.2.mono (by omega))).trans (pw_below_drewN (Below.refl _ _) m5)) (by show w.heap.size ≤ w.heap.size + 1; omega) _
    generalize (w4.drewN m5).setCell ⟨w.heap.size + 1, 0, none⟩ (.int .i64 (D.length : Int)) = w5 at d5 i5 y0 y1 y2 y3 r5 b5 ⊢
    have HFV := Aside0.mk (fvals_calls d5 i5 hD0 (by omega) hvl (by omega))
    have hEX : E ≠ wr.heap.size := Nat.ne_of_lt (blk_lt hd.e)
    have hEl := d5.le
    clear g3 g4 g5 x3 x1 x2 x4 b3 hd hI2 row4 ox4 R4 ALL HE4 HC1 HEN HWD HW3 HDS d5 i5 hmk t0 z0 z1 hvl
    have Y5 := Aside0.mk (And.intro y0 (And.intro y1 (And.intro y2 (And.intro y3 (And.intro r5 b5)))))
    have EX := Aside0.mk (And.intro hEX hEl)
    have KS := Aside0.mk (And.intro ks (And.intro hlo hn4))
    have LN2 := Aside0.mk (show D.length ≤ 1000 by omega)
    clear y0 y1 y2 y3 r5 b5 hEX hEl ks hlo hn4 hP1 hnl hdl hD0 LN
    go_upto_region 12 with (first | (go_at_call 21; go_loud (refine HFV.out.mono ?_; rintro e w6 ⟨B, D6, G, rfl, o6, hb6, b6, k6⟩; have O6 := Aside0.mk (And.intro o6 (And.intro hb6 (And.intro b6 k6))); clear o6 hb6 b6 k6)) | (go_at_call 20; go_loud (obtain ⟨dn, z, r, q1, q2, q3⟩ := O6.out.1; have HFL := flushed_calls B D6 _ _ G w6 q2 (by simp) (by simp; omega); refine HFL.mono ?_; rintro e w7 ⟨v0, rfl, r7, b7⟩; rw [take_own] at r7; obtain ⟨A7, c7, rfl⟩ := Kd.R_slice r7; obtain ⟨y0, y1, y2, y3, r5, b5⟩ := Y5.out; have s5 := blk_lt r5; obtain ⟨o1, o2, o3, o4⟩ := O6.out; have f7 : ∀ g, g < w5.heap.size → g ≠ E → w7.heap[g]? = w5.heap[g]? := fun g h1 h2 => (b7.block g (Nat.lt_of_lt_of_le h1 o3.size)).trans (o4 g h1 h2); have EE := EX.out.2; have KK := KS.out.1; have y0 := (f7 _ (blk_lt y0) (by omega)).trans y0; have y1 := (f7 _ (blk_lt y1) (by omega)).trans y1; have y2 := (f7 _ (blk_lt y2) (by omega)).trans y2; have y3 := (f7 _ (blk_lt y3) (by omega)).trans y3; have r5 := (f7 _ (blk_lt r5) (Ne.symm EX.out.1)).trans r5; have c2 : w7.cell? ⟨w.heap.size + 1 + 1, 0, none⟩ = some (.slice none 0 0) := (blk_cell y2 0).trans rfl; have c3 : w7.cell? ⟨w.heap.size + 1 + 1 + 1, 0, none⟩ = some (.bool false) := (blk_cell y3 0).trans rfl; have z2 := blk_frozen y2 0; have z3 := blk_frozen y3 0; have b75 := (b5.trans (o3.mono (by omega))).trans (b7.mono (Nat.le_trans b5.size o3.size)); have Y7 := Aside0.mk (And.intro y0 (And.intro y1 (And.intro y2 (And.intro y3 (And.intro r5 b75))))); have R7 := Aside0.mk (And.intro r7 (And.intro o3.size (And.intro s5 q1))); clear y0 y1 y2 y3 r5 s5 b75 r7 b7 o1 o2 o3 o4 f7 EE KK HFL q1 q2 q3)))
    obtain ⟨y0, y1, y2, y3, r5, b75⟩ := Y7.out
    obtain ⟨r7, o3, b5, q1⟩ := R7.out
    have ks := KS.out.1
    have hlo := KS.out.2.1
    have e0 := blk_far (blk_far y0 (p := ⟨w.heap.size + 1 + 1, 0, none⟩) (show w.heap.size ≠ w.heap.size + 1 + 1 by omega) (.slice A7 ((wdof D.length : Int) :: dn).length c7)) (p := ⟨w.heap.size + 1 + 1 + 1, 0, none⟩) (show w.heap.size ≠ w.heap.size + 1 + 1 + 1 by omega) (.bool true)
    have e1 := blk_far (blk_far y1 (p := ⟨w.heap.size + 1 + 1, 0, none⟩) (show w.heap.size + 1 ≠ w.heap.size + 1 + 1 by omega) (.slice A7 ((wdof D.length : Int) :: dn).length c7)) (p := ⟨w.heap.size + 1 + 1 + 1, 0, none⟩) (show w.heap.size + 1 ≠ w.heap.size + 1 + 1 + 1 by omega) (.bool true)
    have e2 := blk_far (blk_set y2 0 (.slice A7 ((wdof D.length : Int) :: dn).length c7)) (p := ⟨w.heap.size + 1 + 1 + 1, 0, none⟩) (show w.heap.size + 1 + 1 ≠ w.heap.size + 1 + 1 + 1 by omega) (.bool true)
    have e3 := blk_set (blk_far y3 (p := ⟨w.heap.size + 1 + 1, 0, none⟩) (show w.heap.size + 1 + 1 + 1 ≠ w.heap.size + 1 + 1 by omega) (.slice A7 ((wdof D.length : Int) :: dn).length c7)) 0 (.bool true)
    have e5 := blk_far (blk_far r5 (p := ⟨w.heap.size + 1 + 1, 0, none⟩) (show wr.heap.size ≠ w.heap.size + 1 + 1 by omega) (.slice A7 ((wdof D.length : Int) :: dn).length c7)) (p := ⟨w.heap.size + 1 + 1 + 1, 0, none⟩) (show wr.heap.size ≠ w.heap.size + 1 + 1 + 1 by omega) (.bool true)
    have hs5 : wr.heap.size < w7.heap.size := blk_lt r5
    have hRR := Kd.R_far (p := ⟨w.heap.size + 1 + 1 + 1, 0, none⟩) (Kd.R_far (p := ⟨w.heap.size + 1 + 1, 0, none⟩) (Kd.R_mono (ok' := fun k => w5.heap.size ≤ k) (Kd.R_bound r7) (fun k hk => Nat.le_trans o3 hk.2.1)) (fun k hk => by have : w5.heap.size ≤ k := hk; show k ≠ w.heap.size + 1 + 1; omega) (.slice A7 ((wdof D.length : Int) :: dn).length c7)) (fun k hk => by have : w5.heap.size ≤ k := hk; show k ≠ w.heap.size + 1 + 1 + 1; omega) (.bool true)
    have hBB := Below.setCell (p := ⟨w.heap.size + 1 + 1 + 1, 0, none⟩) (Below.setCell (p := ⟨w.heap.size + 1 + 1, 0, none⟩) b75 (show w.heap.size ≤ w.heap.size + 1 + 1 by omega) (.slice A7 ((wdof D.length : Int) :: dn).length c7)) (show w.heap.size ≤ w.heap.size + 1 + 1 + 1 by omega) (.bool true)
    clear c2 c3 z2 z3
    generalize (w7.setCell ⟨w.heap.size + 1 + 1, 0, none⟩ (.slice A7 ((wdof D.length : Int) :: dn).length c7)).setCell ⟨w.heap.size + 1 + 1 + 1, 0, none⟩ (.bool true) = w8 at e0 e1 e2 e3 e5 hRR hBB ⊢
    have HHH := Aside0.mk (And.intro e0 (And.intro e1 (And.intro e2 (And.intro e3 (And.intro e5 (And.intro hRR (And.intro hBB (And.intro o3 (And.intro b5 q1)))))))))
    have c0 : w8.cell? ⟨w.heap.size, 0, none⟩ = some (.slice (some ⟨wr.heap.size, 0, none⟩) n4 n4) := (blk_cell e0 0).trans rfl
    have c1 : w8.cell? ⟨w.heap.size + 1, 0, none⟩ = some (.int .i64 (D.length : Int)) := (blk_cell e1 0).trans rfl
    have c2 : w8.cell? ⟨w.heap.size + 1 + 1, 0, none⟩ = some (.slice A7 (dn.length + 1) c7) := (blk_cell e2 0).trans rfl
    have c3 : w8.cell? ⟨w.heap.size + 1 + 1 + 1, 0, none⟩ = some (.bool true) := (blk_cell e3 0).trans rfl
    have z0 := blk_frozen e0 0
    have z1 := blk_frozen e1 0
    have z2 := blk_frozen e2 0
    have z3 := blk_frozen e3 0
    have j0 : w8.setCell ⟨w.heap.size, 0, none⟩ (.slice (some ⟨wr.heap.size, 0, none⟩) n4 n4) = w8 := set_same e0 0 _ rfl
    have j1 : w8.setCell ⟨w.heap.size + 1, 0, none⟩ (.int .i64 (D.length : Int)) = w8 := set_same e1 0 _ rfl
    have j2 : w8.setCell ⟨w.heap.size + 1 + 1, 0, none⟩ (.slice A7 (dn.length + 1) c7) = w8 := set_same e2 0 _ rfl
    have j3 : w8.setCell ⟨w.heap.size + 1 + 1 + 1, 0, none⟩ (.bool true) = w8 := set_same e3 0 _ rfl
    have k0 : w8.drew.setCell ⟨w.heap.size, 0, none⟩ (.slice (some ⟨wr.heap.size, 0, none⟩) n4 n4) = w8.drew := set_same (w := w8.drew) e0 0 _ rfl
    have k1 : w8.drew.setCell ⟨w.heap.size + 1, 0, none⟩ (.int .i64 (D.length : Int)) = w8.drew := set_same (w := w8.drew) e1 0 _ rfl
    have k2 : w8.drew.setCell ⟨w.heap.size + 1 + 1, 0, none⟩ (.slice A7 (dn.length + 1) c7) = w8.drew := set_same (w := w8.drew) e2 0 _ rfl
    have k3 : w8.drew.setCell ⟨w.heap.size + 1 + 1 + 1, 0, none⟩ (.bool true) = w8.drew := set_same (w := w8.drew) e3 0 _ rfl
    have CC := Aside0.mk (And.intro c0 (And.intro c1 (And.intro c2 c3)))
    clear e0 e1 e2 e3 e5 hRR hBB o3 b5 q1 y0 y1 y2 y3 r5 b75 r7 hs5 ks hlo Y7 R7 HFV O6 Y5
    go_region_held3 (fun w' => w'.cell? ⟨w.heap.size, 0, none⟩ = some (.slice (some ⟨wr.heap.size, 0, none⟩) n4 n4) ∧ w'.cell? ⟨w.heap.size + 1, 0, none⟩ = some (.int .i64 (D.length : Int)) ∧ w'.cell? ⟨w.heap.size + 1 + 1, 0, none⟩ = some (.slice A7 (dn.length + 1) c7) ∧ w'.cell? ⟨w.heap.size + 1 + 1 + 1, 0, none⟩ = some (.bool true)) (first | exact CC.out | (simp only [j0, j1, j2, j3, k0, k1, k2, k3]; exact CC.out) | (go_keep)) (fail)
    go_wp2
    obtain ⟨e0, e1, e2, e3, e5, hRR, hBB, o3, s5, q1⟩ := HHH.out
    have hlen : (dictB l0).length = n4 := by
     rw [EQ.out.1, KS.out.2.2]
     exact flat4 D
    have hks := KS.out.1
    have hwl := KS.out.2.1
    have hz : w.heap.size ≤ w6.heap.size := by have := Nat.le_trans (Nat.le_of_lt s5) o3; omega
    refine leaves_cons (f := 13) (args := #[.pointer (some ⟨w.heap.size, 0, none⟩), .pointer (some ⟨w.heap.size + 1, 0, none⟩), .pointer (some ⟨w.heap.size + 1 + 1, 0, none⟩), .pointer (some ⟨w.heap.size + 1 + 1 + 1, 0, none⟩)]) (by simp) (by simp [go_sem]) ?_
    refine (idle_calls _ _ _ _ _).mono ?_
    rintro e u' w'' ⟨rfl, rfl, rfl⟩
    refine ⟨.tuple #[.slice (some ⟨wr.heap.size, 0, none⟩) n4 n4, .int .i64 (D.length : Int), .slice A7 (dn.length + 1) c7, .bool true], ?_, .slice (some ⟨wr.heap.size, 0, none⟩) n4 n4, .slice A7 (dn.length + 1) c7, ?_, ?_, ?_, ?_⟩
    ·have c0' : w8.drew.cell? ⟨w.heap.size, 0, none⟩ = some (.slice (some ⟨wr.heap.size, 0, none⟩) n4 n4) := c0
     have c1' : w8.drew.cell? ⟨w.heap.size + 1, 0, none⟩ = some (.int .i64 (D.length : Int)) := c1
     have c2' : w8.drew.cell? ⟨w.heap.size + 1 + 1, 0, none⟩ = some (.slice A7 (dn.length + 1) c7) := c2
     have c3' : w8.drew.cell? ⟨w.heap.size + 1 + 1 + 1, 0, none⟩ = some (.bool true) := c3
     simp [results, Tryz.results4, go_sem, c0', c1', c2', c3']
    ·rw [EQ.out.2.1]
    ·refine Kd.R_of_own ?_ ?_
     ·rw [hlen]
      refine ⟨by rw [encs_length, hlen]; omega, .inr ⟨wr.heap.size, n4, _, rfl, by omega, e5, Nat.le_refl _, ?_, ?_, ?_⟩⟩
      ·have := KS.out.2.2; have := LN2.out; unfold maxLen; omega
      ·have h4 := hlen
       rw [EQ.out.1] at h4
       simp [h4]
      ·have h4 := hlen
       rw [EQ.out.1] at h4
       rw [EQ.out.1, Nat.mul_one]
       exact List.take_of_length_le (by simp [h4])
     ·intro k hk h2
      have h3 : k = wr.heap.size := by simpa [Value.ownBlock] using hk.symm
      have h4 := hRR.1 k h2.symm
      omega
    ·rw [EQ.out.2.2, ← q1.1]
     exact Kd.R_mono (Kd.R_lower hRR hz) (fun k hk => by
      have : w5.heap.size ≤ k := hk
      simp [Value.ownBlock]
      omega)
    ·exact below_drew hBB
theorem impl_DictionaryInt32Written.calls (A0 : Option Addr) (c0 : Nat) (l0 : List (List (S29))) (r1 : List Int) (r2 : Int) (r3 : List Int) (r4 : Bool) (w : World) (hr0 : Kd.C (Kd.slice 29 k29) w A0 l0.length l0) (hc0 : l0.length ≤ c0) (h : impl_DictionaryInt32Written.f l0 = some (r1, r2, r3, r4)) :
  Calls Tryz.prog 4 #[.slice A0 l0.length c0] w fun e w' => ∃ v0_ v2_ : Value, e = .returned (.tuple #[v0_, .int .i64 r2, v2_, .bool r4]) ∧ Kd.R (Kd.int .u8) 5 w' w.heap.size (fun k_ => some k_ ≠ (v2_ : Value).ownBlock) v0_ r1 ∧ Kd.R (Kd.int .u8) 5 w' w.heap.size (fun k_ => some k_ ≠ (v0_ : Value).ownBlock) v2_ r3 ∧ Below w.heap.size w w' := by
 unfold impl_DictionaryInt32Written.f at h
 by_cases hf : FairK l0
 ·rw [if_pos hf] at h
  simp only [Option.some.injEq, Prod.mk.injEq] at h
  obtain ⟨rfl, rfl, rfl, rfl⟩ := h
  exact dict_walk A0 c0 l0 w hr0 hc0 hf
 ·rw [if_neg hf] at h
  cases h
end Go.Proofs.YtiieljnllgeoeaaGreat.Q
