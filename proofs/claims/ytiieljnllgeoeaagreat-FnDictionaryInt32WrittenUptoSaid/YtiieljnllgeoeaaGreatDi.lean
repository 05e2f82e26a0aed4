/- spec.Distinct: values with no children. -/
import Derived.Test.YtiieljnllgeoeaaGreatHk
namespace Go.Proofs.YtiieljnllgeoeaaGreat.Q
open Go.RowKit Go.Proofs.YtiieljnllgeoeaaGreatW.PrintWords Go.Proofs.YtiieljnllgeoeaaGreatW.PrintLast Go.Proofs.YtiieljnllgeoeaaGreatW.PrintMore
set_option linter.unusedVariables false
set_option linter.unusedSimpArgs false
set_option maxHeartbeats 1000000 in
set_option maxRecDepth 100000 in
theorem samevs_calls (A A' : Option Addr) (c c' : Nat) (w : World) : Calls Tryz.prog 47 #[.slice A 0 c, .slice A' 0 c'] w fun e w' => e = .returned (.bool true) ∧ w' = w := by
 go_enter Tryz.func47, Tryz.ntmps47
 go_wp2
 go_loopg [13] 1 (fun kq v13 w' => v13 = .int .i64 0 ∧ w' = w ∧ 0 < kq)
 case atStart => exact ⟨rfl, rfl, by omega⟩
 case round =>
  obtain ⟨rfl, rfl, h⟩ := hrel
  go_wp2
  go_ret
  exact ⟨rfl, rfl⟩
set_option maxHeartbeats 4000000 in
set_option maxRecDepth 100000 in
theorem samev_calls (x y : Int) (A A' : Option Addr) (c c' : Nat) (w : World) : Calls Tryz.prog 24 #[.agg #[.bool false, .int .u64 x, .string (⟨#[]⟩ : ByteArray), .slice A 0 c], .agg #[.bool false, .int .u64 y, .string (⟨#[]⟩ : ByteArray), .slice A' 0 c']] w fun e w' => e = .returned (.bool (decide (x = y))) ∧ Below w.heap.size w w' := by
 have HS := Aside0.mk (fun W => samevs_calls A A' c c' W)
 by_cases q : x = y
 ·subst q
  have HB := Aside0.mk (below_alloc (below_alloc (Below.refl w.heap.size w) (.cells #[.bool false, .int .u64 x, .string (⟨#[]⟩ : ByteArray), .slice A 0 c] 29)) (.cells #[.bool false, .int .u64 x, .string (⟨#[]⟩ : ByteArray), .slice A' 0 c'] 29))
  go_enter Tryz.func24, Tryz.ntmps24
  go_wp2_with (first | (go_at_call 47; go_loud (refine (HS.out _).mono ?_; rintro e w1 ⟨rfl, rfl⟩)))
  go_ret
  exact ⟨by simp, HB.out⟩
 ·have qb : decide (x = y) = false := decide_eq_false q
  have HB := Aside0.mk (below_alloc (below_alloc (Below.refl w.heap.size w) (.cells #[.bool false, .int .u64 x, .string (⟨#[]⟩ : ByteArray), .slice A 0 c] 29)) (.cells #[.bool false, .int .u64 y, .string (⟨#[]⟩ : ByteArray), .slice A' 0 c'] 29))
  go_enter Tryz.func24, Tryz.ntmps24
  go_wp2
  go_ret
  exact ⟨by simp [q], HB.out⟩
/-- A value with no children: its four cells. -/
def row29 (x : Int) (A : Option Addr) (c : Nat) : List Value := [.bool false, .int .u64 x, .string (⟨#[]⟩ : ByteArray), .slice A 0 c]
def Desc (rows : List (List Value)) (D : List Int) : Prop := rows.length = D.length ∧ ∀ j, j < D.length → ∃ A c, rows[j]? = some (row29 (D.getD j 0) A c)
theorem Desc.snoc {rows : List (List Value)} {D : List Int} (h : Desc rows D) (x : Int) (A : Option Addr) (c : Nat) : Desc (rows ++ [row29 x A c]) (D ++ [x]) := by
 refine ⟨by simp [h.1], fun j hj => ?_⟩
 rw [List.length_append, List.length_singleton] at hj
 by_cases q : j < D.length
 ·obtain ⟨A', c', e⟩ := h.2 j q
  refine ⟨A', c', ?_⟩
  rw [List.getElem?_append_left (by rw [h.1]; exact q), e, List.getD_eq_getElem?_getD, List.getD_eq_getElem?_getD, List.getElem?_append_left q]
 ·have hj2 : j = D.length := by omega
  subst hj2
  refine ⟨A, c, ?_⟩
  rw [← h.1, List.getElem?_concat_length, h.1, List.getD_eq_getElem?_getD, List.getElem?_concat_length]
  rfl
/-- The cells of one of them. -/
theorem Desc.at {w : World} {b : Nat} {ok : Nat → Prop} {v : Value} {rows : List (List Value)} {D : List Int} (h : Desc rows D) (hr : (Kd.raw 4).R 29 w b ok v rows) (k : Nat) (hk : k < D.length) : ∃ ad A c cap, v = .slice (some ad) D.length cap ∧ w.cell? (ad.add (k * 4)) = some (.bool false) ∧ w.cell? ⟨(ad.add (k * 4)).block, (ad.add (k * 4)).off + 1, none⟩ = some (.int .u64 (D.getD k 0)) ∧ w.cell? ⟨(ad.add (k * 4)).block, (ad.add (k * 4)).off + 2, none⟩ = some (.string (⟨#[]⟩ : ByteArray)) ∧ w.cell? ⟨(ad.add (k * 4)).block, (ad.add (k * 4)).off + 3, none⟩ = some (.slice A 0 c) := by
 obtain ⟨A0, cap, rfl⟩ := Kd.R_slice hr
 obtain ⟨ad, cs, e, hl, hK, hc⟩ := Kd.C_get (Kd.R_reads' hr).2.2 [] (k : Int) (by omega) (by rw [h.1]; omega)
 subst e
 rw [Int.toNat_natCast] at hK hc
 obtain ⟨A, c, hrow⟩ := h.2 k hk
 have hcs : cs = row29 (D.getD k 0) A c := by
  have h1 : cs = rows.getD k [] := hK.1
  rw [h1, List.getD_eq_getElem?_getD, hrow]
  rfl
 subst hcs
 have hc : ∀ j u, (row29 (D.getD k 0) A c)[j]? = some u → w.cell? (ad.add (k * 4 + j)) = some u := hc
 refine ⟨ad, A, c, cap, by rw [h.1], hc 0 _ rfl, ?_, ?_, ?_⟩
 ·rw [← add_field _ _ 1 (by omega)]; exact hc 1 _ rfl
 ·rw [← add_field _ _ 2 (by omega)]; exact hc 2 _ rfl
 ·rw [← add_field _ _ 3 (by omega)]; exact hc 3 _ rfl
theorem keepR {α : Type} {d : Kd α} (hE : d.E = []) {e e' b : Nat} {ok : Nat → Prop} {W W' : World} {v v' : Value} {xs : List α} (h : d.R e W b ok v xs) (ht : ∀ k, v'.ownBlock = some k → ∃ cells, W.heap[k]? = some (.cells cells e' (0, 0))) (hne : e ≠ e') (hg : W.grownBy W' v'.ownBlock) : d.R e W' b ok v xs := by
 refine Kd.R_mono (Kd.R_step (Kd.R_bound h) (fun k hk hlt => hg.block k hlt (fun he => ?_))) (fun k hk => hk.1)
 obtain ⟨_, _, _, q, hq, cells, hc⟩ := hk
 rw [hE] at hq
 obtain ⟨cells', hc'⟩ := ht k he.symm
 rw [hc] at hc'
 have : q = e := by simpa using hq
 subst this
 cases hc'
 exact hne rfl
theorem row29_ok (x : Int) (A : Option Addr) (c : Nat) : row29 x A c = row29 x A c ∧ (row29 x A c).length = 4 ∧ ∀ u ∈ row29 x A c, u.oneCell' = true := by
 refine ⟨rfl, rfl, fun u hu => ?_⟩
 simp only [row29, List.mem_cons, List.not_mem_nil, or_false] at hu
 rcases hu with rfl | rfl | rfl | rfl <;> rfl
theorem idx_none (D : List Int) (x : Int) (h : ∀ j, j < D.length → D.getD j 0 ≠ x) : x ∉ D := by
 intro hm
 obtain ⟨j, hj, e⟩ := List.getElem_of_mem hm
 exact h j hj (by rw [List.getD_eq_getElem?_getD, List.getElem?_eq_getElem hj]; exact e)
theorem idx_at (D : List Int) (x : Int) (k : Nat) (hk : k < D.length) (h : ∀ j, j < k → D.getD j 0 ≠ x) (e : D.getD k 0 = x) : D.idxOf x = k := by
 induction D generalizing k with
 | nil => simp at hk
 | cons d D ih =>
  cases k with
  | zero => have : d = x := e; rw [this]; simp
  | succ k =>
   have h0 : d ≠ x := h 0 (by omega)
   rw [List.idxOf_cons, show (d == x) = false by simpa using h0, cond_false, ih k (by simpa using hk) (fun j hj => by have := h (j + 1) (by omega); simpa using this) (by simpa using e)]
set_option maxHeartbeats 8000000 in
set_option maxRecDepth 100000 in
theorem dist_walk (P0_ : Nat → Prop) (A0 : Option Addr) (c0 : Nat) (l0 : List (S29)) (w : World) (hr : Kd.C k29 w A0 l0.length l0) (hl : l0.length ≤ 1000) (hv : ∀ v ∈ l0, v.f0 = false ∧ v.f2 = (⟨#[]⟩ : ByteArray) ∧ v.f3 = []) :
  Calls Tryz.prog 7 #[.slice A0 l0.length c0] w fun e w' => ∃ (v0_ v1_ : Value) (rows : List (List Value)), e = .returned (.tuple #[v0_, v1_]) ∧ Desc rows (dist (l0.map S29.f1)) ∧ (Kd.raw 4).R 29 w' w.heap.size (fun _ => True) v0_ rows ∧ Kd.R (Kd.int .u64) 26 w' w.heap.size (fun _ => True) v1_ ((nums (l0.map S29.f1)).map (fun n => ((n : Nat) : Int))) ∧ Below w.heap.size w w' := by
 have HR := Aside0.mk hr
 have HL := Aside0.mk hl
 have HV := Aside0.mk hv
 obtain ⟨X, hX⟩ : ∃ X, X = l0.map S29.f1 := ⟨_, rfl⟩
 rw [← hX]
 have HX := Aside0.mk hX
 clear hr hl hv hX
 go_enter Tryz.func7, Tryz.ntmps7
 go_wp2
 go_loopg [4, 5, 11] (l0.length + 1) (fun kq v4 v5 v11 w' => ∃ (i : Nat) (rows : List (List Value)), v11 = .int .i64 (i : Int) ∧ Aside0 (i + kq = l0.length + 1) ∧ Aside0 (i ≤ l0.length) ∧ Aside0 (Desc rows (dist (X.take i))) ∧ Aside0 ((Kd.raw 4).R 29 w' w.heap.size (fun _ => True) v4 rows) ∧ Aside0 (Kd.R (Kd.int .u64) 26 w' w.heap.size (fun _ => True) v5 ((nums (X.take i)).map (fun n => ((n : Nat) : Int)))) ∧ Aside0 (Below w.heap.size w w'))
 case atStart => exact ⟨0, [], rfl, ⟨by omega⟩, ⟨by omega⟩, ⟨⟨by simp [dist], fun j hj => absurd hj (by simp [dist])⟩⟩, ⟨Kd.R_nil _ _ _ _ _⟩, ⟨Kd.R_nil _ _ _ _ _⟩, ⟨Below.refl _ _⟩⟩
 case round =>
  obtain ⟨i, rows, rfl, HKK, HI, HD, HO, HN, HB⟩ := hrel
  obtain ⟨A4, c4, rfl⟩ := Kd.R_slice HO.out
  rw [HD.out.1] at HO ⊢
  cases gk with
  | zero => exact absurd HKK.out (by have := HI.out; omega)
  | succ k1 =>
   by_cases c2 : (i : Int) < (l0.length : Int)
   ·have c2b : decide ((i : Int) < (l0.length : Int)) = true := decide_eq_true c2
    have c2n : decide (i < l0.length) = true := decide_eq_true (by omega)
    obtain ⟨ad, A3, c3, e1, hx0, hx1, hx2, hx3, hl3, hi3⟩ := at_T29 HR.out (i : Int) (by omega) c2
    cases e1
    have hil : i < l0.length := by omega
    have hrd : rd_T29 l0 (i : Int) = l0[i] := by
     show l0.getD (i : Int).toNat z29 = _
     rw [Int.toNat_natCast, List.getD_eq_getElem?_getD, List.getElem?_eq_getElem hil]; rfl
    obtain ⟨f0, f2, f3⟩ := HV.out _ (List.getElem_mem hil)
    rw [hrd] at hx0 hx1 hx2 hx3
    rw [f0] at hx0
    rw [f2] at hx2
    rw [f3] at hx3
    have hxi : X.take (i + 1) = X.take i ++ [(l0[i]).f1] := by
     rw [HX.out, List.take_succ_eq_append_getElem (by simpa using hil)]
     simp
    have HXL := Aside0.mk (show (X.take i).length ≤ 1000 by have := HL.out; simp; omega)
    have HXI := Aside0.mk hxi
    replace hx0 := (HB.out.cell (World.block_lt_of_cell? w _ hx0)).trans hx0
    replace hx1 := (HB.out.cell (World.block_lt_of_cell? w _ hx1)).trans hx1
    replace hx2 := (HB.out.cell (World.block_lt_of_cell? w _ hx2)).trans hx2
    replace hx3 := (HB.out.cell (World.block_lt_of_cell? w _ hx3)).trans hx3
    simp only [Int.toNat_natCast, List.length_nil] at hx0 hx1 hx2 hx3
    have g0 : (0 : Int) ≤ (i : Int) := by omega
    generalize (l0[i]).f1 = x at hx1 HXI
    clear hl3 hi3 hxi hrd f0 f2 f3
    have b1 : Below wr.heap.size wr (wr.alloc (.cells #[.bool false, .int .u64 x, .string (⟨#[]⟩ : ByteArray), .slice A3 0 c3] 29)) := below_alloc (Below.refl _ _) _
    have k7 : (wr.alloc (.cells #[.bool false, .int .u64 x, .string (⟨#[]⟩ : ByteArray), .slice A3 0 c3] 29)).heap[wr.heap.size]? = some (.cells #[.bool false, .int .u64 x, .string (⟨#[]⟩ : ByteArray), .slice A3 0 c3] 29 (0, 0)) := blk_new wr _
    have s7 : wr.heap.size < (wr.alloc (.cells #[.bool false, .int .u64 x, .string (⟨#[]⟩ : ByteArray), .slice A3 0 c3] 29)).heap.size := blk_lt k7
    have hsb : w.heap.size ≤ wr.heap.size := HB.out.size
    have H1 := Aside0.mk (And.intro b1 (And.intro k7 (And.intro s7 hsb)))
    clear b1 k7 s7 hsb
    go_wp2
    clear hx0 hx1 hx2 hx3
    generalize wr.alloc (.cells #[.bool false, .int .u64 x, .string (⟨#[]⟩ : ByteArray), .slice A3 0 c3] 29) = W1 at H1 ⊢
    have HO1 := Aside0.mk (Kd.R_below HO.out H1.out.1)
    have HN1 := Aside0.mk (Kd.R_below HN.out H1.out.1)
    have HB1 := Aside0.mk (HB.out.trans (H1.out.1.mono H1.out.2.2.2))
    have K7 := Aside0.mk H1.out.2.1
    have S7 := Aside0.mk H1.out.2.2.1
    clear HO HN HB H1
    generalize wr.heap.size = b7 at K7 S7 ⊢
    have HDL := Aside0.mk (Nat.le_trans (dist_len (X.take i)) HXL.out)
    have HNS := Aside0.mk (nums_snoc (X.take i) x)
    have HDS := Aside0.mk (dist_snoc (X.take i) x)
    have HNL := Aside0.mk (show ((nums (X.take i)).map (fun n => ((n : Nat) : Int))).length ≤ 1000 by rw [List.length_map, nums_len]; exact HXL.out)
    rw [← HXI.out] at HNS HDS
    generalize hDg : dist (X.take i) = D at *
    generalize hNg : nums (X.take i) = NN at *
    clear hDg hNg
    go_loopg [8] (D.length + 1) (fun kq v8 w' => ∃ k : Nat, v8 = .int .i64 (k : Int) ∧ Aside0 (k + kq = D.length + 1) ∧ Aside0 (k ≤ D.length ∧ ∀ j, j < k → D.getD j 0 ≠ x) ∧ Aside0 (Below W1.heap.size W1 w'))
    case atStart => exact ⟨0, rfl, ⟨by omega⟩, ⟨by omega, fun j hj => absurd hj (by omega)⟩, ⟨Below.refl _ _⟩⟩
    case round =>
     obtain ⟨k, rfl, HKQ, HKD, HW⟩ := hrel
     cases gk with
     | zero => exact absurd HKQ.out (by have := HKD.out.1; omega)
     | succ k2 =>
      have hb3 := HB1.out.trans (HW.out.mono HB1.out.size)
      have q7 := (HW.out.block _ S7.out).trans K7.out
      have z0 : wr.cell? ⟨b7, 0, none⟩ = some (.bool false) := (blk_cell q7 0).trans rfl
      have z1 : wr.cell? ⟨b7, 1, none⟩ = some (.int .u64 x) := (blk_cell q7 1).trans rfl
      have z2 : wr.cell? ⟨b7, 2, none⟩ = some (.string (⟨#[]⟩ : ByteArray)) := (blk_cell q7 2).trans rfl
      have z3 : wr.cell? ⟨b7, 3, none⟩ = some (.slice A3 0 c3) := (blk_cell q7 3).trans rfl
      have hcu : IntKind.u64.wrap (k : Int) = (k : Int) := by have := HKD.out.1; have := HDL.out; simp [IntKind.wrap, IntKind.bits, IntKind.signed]; omega
      have HB3 := Aside0.mk hb3
      have HO3 := Aside0.mk (Kd.R_below HO1.out HW.out)
      have HN3 := Aside0.mk (Kd.R_below HN1.out HW.out)
      clear hb3 q7
      by_cases ck : k < D.length
      ·obtain ⟨ad2, A, cA, cap, e, y0, y1, y2, y3⟩ := HD.out.at HO3.out k ck
       cases e
       have HSV := Aside0.mk (samev_calls (D.getD k 0) x A A3 cA c3)
       have kb : decide ((k : Int) < (D.length : Int)) = true := decide_eq_true (by omega)
       have kn : decide (k < D.length) = true := decide_eq_true ck
       have g1 : (0 : Int) ≤ (k : Int) := by omega
       have kb2 : decide ((k : Int) = (D.length : Int)) = false := decide_eq_false (by omega)
       have kn2 : decide (k = D.length) = false := decide_eq_false (by omega)
       by_cases cx : D.getD k 0 = x
       ·have cxd : decide (D.getD k 0 = x) = true := decide_eq_true cx
        have HMX := Aside0.mk (idx_at D x k ck HKD.out.2 cx)
        have HMM := Aside0.mk (show x ∈ D by rw [← cx, List.getD_eq_getElem?_getD, List.getElem?_eq_getElem ck]; exact List.getElem_mem ck)
        clear cx
        generalize D.getD k 0 = dk at y1 HSV cxd
        have SA := Aside0.mk (And.intro y0 (And.intro y1 (And.intro y2 (And.intro y3 (And.intro z0 (And.intro z1 (And.intro z2 z3)))))))
        go_wp2
        go_region_held3 (fun w' => w'.cell? (ad2.add (k * 4)) = some (.bool false) ∧ w'.cell? ⟨(ad2.add (k * 4)).block, (ad2.add (k * 4)).off + 1, none⟩ = some (.int .u64 dk) ∧ w'.cell? ⟨(ad2.add (k * 4)).block, (ad2.add (k * 4)).off + 2, none⟩ = some (.string (⟨#[]⟩ : ByteArray)) ∧ w'.cell? ⟨(ad2.add (k * 4)).block, (ad2.add (k * 4)).off + 3, none⟩ = some (.slice A 0 cA) ∧ w'.cell? ⟨b7, 0, none⟩ = some (.bool false) ∧ w'.cell? ⟨b7, 1, none⟩ = some (.int .u64 x) ∧ w'.cell? ⟨b7, 2, none⟩ = some (.string (⟨#[]⟩ : ByteArray)) ∧ w'.cell? ⟨b7, 3, none⟩ = some (.slice A3 0 c3)) (first | exact SA.out | exact S5.out | go_keep) (first | (go_at_call 24; go_loud (refine (HSV.out _).mono ?_; rintro e w5 ⟨rfl, b4⟩; have b5 : Below wr.heap.size wr w5 := (below_drew (Below.refl wr.heap.size wr)).trans b4; have S5 := Aside0.mk (And.intro ((b5.cell (World.block_lt_of_cell? wr _ y0)).trans y0) (And.intro ((b5.cell (World.block_lt_of_cell? wr _ y1)).trans y1) (And.intro ((b5.cell (World.block_lt_of_cell? wr _ y2)).trans y2) (And.intro ((b5.cell (World.block_lt_of_cell? wr _ y3)).trans y3) (And.intro ((b5.cell (World.block_lt_of_cell? wr _ z0)).trans z0) (And.intro ((b5.cell (World.block_lt_of_cell? wr _ z1)).trans z1) (And.intro ((b5.cell (World.block_lt_of_cell? wr _ z2)).trans z2) ((b5.cell (World.block_lt_of_cell? wr _ z3)).trans z3)))))))); have HRn := Aside0.mk (Kd.R_below HN3.out b5); have HOn := Aside0.mk (Kd.R_below HO3.out b5); have HBn := Aside0.mk (HB3.out.trans (b5.mono HB3.out.size)); clear b4 b5)))
        go_wp2_with (first | ((with_reducible refine gate_builtin (b := .append) (xs := #[.tmp 38, .tmp 41]) rfl ?_); at_builtin; refine Kd.R_append (Kd.int .u64) (w0 := w) w.heap.size rfl (.tmp 38) (.tmp 41) 37 26 (.int .u64 0) 8 rfl Tryz.underlying37 info26 rfl (by decide) (by omega) u5 (NN.map (fun n => ((n : Nat) : Int))) (k : Int) [.int .u64 (k : Int)] (fun _ => True) (fun _ => False) rfl (by first | (go_simp; done) | (go_simp; rfl)) ?aP (fun _ hk => hk.elim) ?aF ?aO ?aB ?aS ?aL ?_; (case aP => exact rfl); (case aB => exact HBn.out); (case aF => exact (fun _ _ => trivial)); (case aO => exact HRn.out); (case aS => exact HBn.out.size); (case aL => have := HNL.out; omega); intro v6 w6 ho hb hg hat; have RN := Aside0.mk (And.intro ho (And.intro hb hg)); clear ho hb hg hat))
        obtain ⟨ho, hb, hg⟩ := RN.out
        go_roundg k1
        case measure => have := HKK.out; omega
        case rel => exact ⟨i + 1, rows, (by have hwi : wrap64 ((i : Int) + 1) = (i : Int) + 1 := (by have := HL.out; have := HI.out; unfold wrap64; omega); simp [hwi]), ⟨by have := HKK.out; omega⟩, ⟨by omega⟩, ⟨by rw [HDS.out]; unfold more; rw [if_pos HMM.out]; exact HD.out⟩, ⟨keepR rfl HOn.out (Kd.R_typed HRn.out) (by decide) hg⟩, ⟨by rw [HNS.out, HMX.out, List.map_append]; exact ho⟩, ⟨hb⟩⟩
       ·have cxd : decide (D.getD k 0 = x) = false := decide_eq_false cx
        have HNX := Aside0.mk (show ∀ j, j < k + 1 → D.getD j 0 ≠ x from fun j hj => by
         by_cases q : j = k
         ·rw [q]; exact cx
         ·exact HKD.out.2 j (by omega))
        clear cx
        generalize D.getD k 0 = dk at y1 HSV cxd
        have SA := Aside0.mk (And.intro y0 (And.intro y1 (And.intro y2 (And.intro y3 (And.intro z0 (And.intro z1 (And.intro z2 z3)))))))
        go_wp2
        go_region_held3 (fun w' => w'.cell? (ad2.add (k * 4)) = some (.bool false) ∧ w'.cell? ⟨(ad2.add (k * 4)).block, (ad2.add (k * 4)).off + 1, none⟩ = some (.int .u64 dk) ∧ w'.cell? ⟨(ad2.add (k * 4)).block, (ad2.add (k * 4)).off + 2, none⟩ = some (.string (⟨#[]⟩ : ByteArray)) ∧ w'.cell? ⟨(ad2.add (k * 4)).block, (ad2.add (k * 4)).off + 3, none⟩ = some (.slice A 0 cA) ∧ w'.cell? ⟨b7, 0, none⟩ = some (.bool false) ∧ w'.cell? ⟨b7, 1, none⟩ = some (.int .u64 x) ∧ w'.cell? ⟨b7, 2, none⟩ = some (.string (⟨#[]⟩ : ByteArray)) ∧ w'.cell? ⟨b7, 3, none⟩ = some (.slice A3 0 c3)) (first | exact SA.out | exact S5.out | go_keep) (first | (go_at_call 24; go_loud (refine (HSV.out _).mono ?_; rintro e w5 ⟨rfl, b4⟩; have b5 : Below wr.heap.size wr w5 := (below_drew (Below.refl wr.heap.size wr)).trans b4; have S5 := Aside0.mk (And.intro ((b5.cell (World.block_lt_of_cell? wr _ y0)).trans y0) (And.intro ((b5.cell (World.block_lt_of_cell? wr _ y1)).trans y1) (And.intro ((b5.cell (World.block_lt_of_cell? wr _ y2)).trans y2) (And.intro ((b5.cell (World.block_lt_of_cell? wr _ y3)).trans y3) (And.intro ((b5.cell (World.block_lt_of_cell? wr _ z0)).trans z0) (And.intro ((b5.cell (World.block_lt_of_cell? wr _ z1)).trans z1) (And.intro ((b5.cell (World.block_lt_of_cell? wr _ z2)).trans z2) ((b5.cell (World.block_lt_of_cell? wr _ z3)).trans z3)))))))); have HW5 := Aside0.mk (HW.out.trans (b5.mono HW.out.size)); clear b4 b5)))
        go_wp2
        go_roundg k2
        case measure => have := HKQ.out; omega
        case rel => exact ⟨k + 1, (by have hwi : wrap64 ((k : Int) + 1) = (k : Int) + 1 := (by have := HDL.out; unfold wrap64; omega); simp [hwi]), ⟨by have := HKQ.out; omega⟩, ⟨by omega, HNX.out⟩, HW5⟩
      ·have hk : k = D.length := by have := HKD.out.1; omega
       have kb : decide ((k : Int) < (D.length : Int)) = false := decide_eq_false (by omega)
       have kn : decide (k < D.length) = false := decide_eq_false ck
       have kb2 : decide ((k : Int) = (D.length : Int)) = true := decide_eq_true (by omega)
       have kn2 : decide (k = D.length) = true := decide_eq_true hk
       have kb3 : ((k : Int) == (D.length : Int)) = true := by rw [hk]; exact beq_self_eq_true _
       have kn3 : (k == D.length) = true := by rw [hk]; exact beq_self_eq_true _
       have HMM := Aside0.mk (idx_none D x (fun j hj => HKD.out.2 j (by omega)))
       have HMX := Aside0.mk (show D.idxOf x = k by rw [List.idxOf_eq_length HMM.out, hk])
       clear hk
       go_wp2
       go_quiet (fail)
       have HOo := Aside0.mk (show (Kd.raw 4).R 29 (wr.drewN nq) w.heap.size (fun _ => True) (.slice A4 D.length c4) rows from HO3.out)
       have HNo := Aside0.mk (show Kd.R (Kd.int .u64) 26 (wr.drewN nq) w.heap.size (fun _ => True) u5 (NN.map (fun n => ((n : Nat) : Int))) from HN3.out)
       have HBo := Aside0.mk (pw_below_drewN HB3.out nq)
       go_wp2_with (first | ((with_reducible refine gate_builtin (b := .append) (xs := #[.tmp 34, .tmp 36]) rfl ?_); at_builtin; refine Kd.R_append (Kd.raw 4) (w0 := w) w.heap.size rfl (.tmp 34) (.tmp 36) 27 29 (.agg #[.bool false, .int .u64 0, .string (⟨#[]⟩ : ByteArray), .slice none 0 0]) 56 rfl Tryz.underlying27 info29 rfl (by decide) (by omega) (.slice A4 D.length c4) rows (row29 x A3 c3) (row29 x A3 c3) (fun _ => True) (fun _ => False) rfl (by first | (go_simp; done) | (go_simp; rfl)) ?aP (fun _ hk => hk.elim) ?aF ?aO ?aB ?aS ?aL ?_; (case aP => exact row29_ok x A3 c3); (case aB => exact HBo.out); (case aF => exact (fun _ _ => trivial)); (case aO => exact HOo.out); (case aS => exact HBo.out.size); (case aL => have := HDL.out; have := HD.out.1; omega); intro v7 w7 ho hb hg hat; have HRn := Aside0.mk (keepR rfl HNo.out (Kd.R_typed HOo.out) (by decide) hg); have HBn := Aside0.mk hb; have HOn := Aside0.mk ho; clear ho hb hg hat) | ((with_reducible refine gate_builtin (b := .append) (xs := #[.tmp 38, .tmp 41]) rfl ?_); at_builtin; refine Kd.R_append (Kd.int .u64) (w0 := w) w.heap.size rfl (.tmp 38) (.tmp 41) 37 26 (.int .u64 0) 8 rfl Tryz.underlying37 info26 rfl (by decide) (by omega) u5 (NN.map (fun n => ((n : Nat) : Int))) (k : Int) [.int .u64 (k : Int)] (fun _ => True) (fun _ => False) rfl (by first | (go_simp; done) | (go_simp; rfl)) ?aP (fun _ hk => hk.elim) ?aF ?aO ?aB ?aS ?aL ?_; (case aP => exact rfl); (case aB => exact HBn.out); (case aF => exact (fun _ _ => trivial)); (case aO => exact HRn.out); (case aS => exact HBn.out.size); (case aL => have := HNL.out; omega); intro v6 w6 ho hb hg hat; have RN := Aside0.mk (And.intro ho (And.intro hb hg)); clear ho hb hg hat))
       obtain ⟨ho, hb, hg⟩ := RN.out
       go_roundg k1
       case measure => have := HKK.out; omega
       case rel => exact ⟨i + 1, _, (by have hwi : wrap64 ((i : Int) + 1) = (i : Int) + 1 := (by have := HL.out; have := HI.out; unfold wrap64; omega); simp [hwi]), ⟨by have := HKK.out; omega⟩, ⟨by omega⟩, ⟨by rw [HDS.out]; unfold more; rw [if_neg HMM.out]; exact HD.out.snoc x A3 c3⟩, ⟨keepR rfl HOn.out (Kd.R_typed HRn.out) (by decide) hg⟩, ⟨by rw [HNS.out, HMX.out, List.map_append]; exact ho⟩, ⟨hb⟩⟩
   ·have c2b : decide ((i : Int) < (l0.length : Int)) = false := decide_eq_false c2
    have c2n : decide (i < l0.length) = false := decide_eq_false (by omega)
    have hi : i = l0.length := by have := HI.out; omega
    have htk : X.take i = X := by rw [hi, HX.out]; exact List.take_of_length_le (by simp)
    subst hi
    rw [htk] at HN HO
    have HD2 := HD.out
    rw [htk] at HD2
    have HD2 := Aside0.mk HD2
    go_wp2
    go_ret2
    exact ⟨_, _, rfl, rows, HD2.out, HO.out, HN.out, HB.out⟩
/-- The values that are spoken of: no null, no text, no children. -/
def FairV (l : List S29) : Bool := decide (l.length ≤ 1000) && l.all (fun v => !v.f0 && v.f2.data.isEmpty && v.f3.isEmpty)
theorem fairV_out {l : List S29} (h : FairV l = true) : l.length ≤ 1000 ∧ ∀ v ∈ l, v.f0 = false ∧ v.f2 = (⟨#[]⟩ : ByteArray) ∧ v.f3 = [] := by
 simp only [FairV, Bool.and_eq_true, decide_eq_true_eq, List.all_eq_true] at h
 refine ⟨h.1, fun v hv => ?_⟩
 obtain ⟨⟨h1, h2⟩, h3⟩ := h.2 v hv
 refine ⟨by simpa using h1, ?_, by simpa using h3⟩
 have : v.f2.data = #[] := by simpa using h2
 cases hv2 : v.f2 with
 | mk d =>
  rw [hv2] at this
  have this : d = #[] := this
  rw [this]
def val29 (x : Int) : S29 := ⟨false, x, (⟨#[]⟩ : ByteArray), []⟩
def spec_Distinct.f (l0 : List S29) : Option ((List S29) × List Int) := if FairV l0 = true then some ((dist (l0.map S29.f1)).map val29, (nums (l0.map S29.f1)).map (fun n => ((n : Nat) : Int))) else none
theorem none_F (W : World) (ok : Nat → Prop) (A : Option Addr) : Kd.F k29 W ok A 0 [] := fun W' _ => ⟨rfl, by decide, fun h => absurd h (by omega)⟩
theorem spec_Distinct.calls (P0_ : Nat → Prop) (A0 : Option Addr) (c0 : Nat) (l0 : List (S29)) (r1 : List (S29)) (r2 : List Int) (w : World) (hs0 : Kd.V k29 29 w w.heap.size (fun k_ => P0_ k_) (.slice A0 l0.length c0) l0) (h : spec_Distinct.f l0 = some (r1, r2)) :
  Calls Tryz.prog 7 #[.slice A0 l0.length c0] w fun e w' => ∃ v0_ v1_ : Value, e = .returned (.tuple #[v0_, v1_]) ∧ Kd.N k29 29 w' w.heap.size (fun k_ => (P0_ k_ ∨ w.heap.size ≤ k_) ∧ some k_ ≠ (v1_ : Value).ownBlock) v0_ r1 ∧ Kd.R (Kd.int .u64) 26 w' w.heap.size (fun k_ => (w.heap.size ≤ k_)) v1_ r2 ∧ Below w.heap.size w w' := by
 unfold spec_Distinct.f at h
 by_cases c : FairV l0 = true
 ·rw [if_pos c] at h
  simp only [Option.some.injEq, Prod.mk.injEq] at h
  obtain ⟨rfl, rfl⟩ := h
  obtain ⟨h1, h2⟩ := fairV_out c
  refine (dist_walk P0_ A0 c0 l0 w (Kd.V_reads' hs0).2.2 h1 h2).mono ?_
  rintro e w' ⟨v0, v1, rows, rfl, hd, hr, hn, hb⟩
  refine ⟨v0, v1, rfl, ⟨fun k hk => ⟨.inr (Kd.R_base hr k hk), fun he => ?_⟩, rows, by rw [hd.1, List.length_map], Kd.raw_tight hr, fun j x cs hx hc => ?_⟩, Kd.R_mono (Kd.R_bound hn) (fun k hk => hk.2.1), hb⟩
  ·obtain ⟨cs, q1⟩ := Kd.R_typed hr k hk
   obtain ⟨cs', q2⟩ := Kd.R_typed hn k he.symm
   rw [q1] at q2
   cases q2
  ·rw [List.getElem?_map] at hx
   cases hj : (dist (l0.map S29.f1))[j]? with
   | none => rw [hj] at hx; cases hx
   | some y =>
    rw [hj] at hx
    cases hx
    obtain ⟨hjl, hje⟩ := List.getElem?_eq_some_iff.1 hj
    obtain ⟨A, cc, hrow⟩ := hd.2 j hjl
    rw [hrow] at hc
    cases hc
    rw [List.getD_eq_getElem?_getD, hj]
    exact k29_mkF w' _ (val29 y) (A3 := A) (c3 := cc) (Nat.zero_le _) (none_F _ _ _)
 ·rw [if_neg c] at h
  cases h
end Go.Proofs.YtiieljnllgeoeaaGreat.Q
