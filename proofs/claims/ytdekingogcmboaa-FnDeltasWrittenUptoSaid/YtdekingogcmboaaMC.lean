/- Several texts of ours in one: Fm, Fn, Fm32, Fn32. -/
import Derived.Test.YtdekingogcmboaaFl
/- Numbers of 64 bits put. -/
namespace Go.Proofs.Ytdekingogcmboaa.Q
open Go.RowKit Go.Proofs.YtdekingogcmboaaW.PrintWords Go.Proofs.YtdekingogcmboaaW.PrintLast Go.Proofs.YtdekingogcmboaaW.PrintMore
set_option linter.unusedVariables false
set_option linter.unusedSimpArgs false
/-- A number's difference is appended, and the number kept. -/
theorem En.push {T : TypeId} {w2 : World} {lo E S W tot : Nat} {first cur x : Int} {dv : Value} {ds out : List Int} (hE : w2.heap[E]? = some (.cells (encL S W tot first cur dv) T (0, 0))) (hlo : lo ≤ E) (hd : Dl w2 lo dv ds) (hs : Sm w2 lo W S out)
    (h1 : T ≠ 95) (h2 : T ≠ 110) (h3 : T ≠ 117) (h4 : T ≠ 5) (h5 : T ≠ 2) : En T (w2.setCell ⟨E, 6, none⟩ (.int .i64 x)) lo E S W tot first x ds out :=
  ⟨dv, blk_set hE 6 _, hlo, hd.set_ hE h5 6 _, hs.setE hE h1 h2 h3 h4 6 _⟩
theorem Sm.drewN {w : World} {lo W S : Nat} {out : List Int} (h : Sm w lo W S out) (n : Nat) : Sm (w.drewN n) lo W S out := by
  obtain ⟨pre, N, bits, h, h0⟩ := h
  exact ⟨pre, N, bits, h.drewN n, h0⟩
theorem En.drewN {T : TypeId} {w : World} {lo E S W tot : Nat} {first cur : Int} {ds out : List Int} (h : En T w lo E S W tot first cur ds out) (n : Nat) : En T (w.drewN n) lo E S W tot first cur ds out := by
  obtain ⟨dv, h1, h2, h3, h4⟩ := h
  exact ⟨dv, h1, h2, h3, h4.drewN n⟩
theorem rest_snoc (pr xs : List Int) (i0 i : Nat) (h0 : i0 ≤ i) (h : i < xs.length) : pr ++ (xs.take (i + 1)).drop i0 = (pr ++ (xs.take i).drop i0) ++ [xs.getD i 0] := by
  rw [take_snoc xs i h, List.drop_append_of_le_length (by simp; omega), List.append_assoc]
theorem wrap64_fit (x : Int) : -9223372036854775808 ≤ wrap64 x ∧ wrap64 x ≤ 9223372036854775807 := by unfold wrap64; omega
theorem fit_snoc {ds : List Int} (h : Fit ds) {d : Int} (hd : -9223372036854775808 ≤ d ∧ d ≤ 9223372036854775807) : Fit (ds ++ [d]) := fun x hx => by
  rcases List.mem_append.1 hx with hx | hx
  · exact h x hx
  · have : x = d := by simpa using hx
    rw [this]; exact hd
set_option maxHeartbeats 8000000 in
set_option maxRecDepth 100000 in
theorem put64_more {w : World} {lo E S W tot c : Nat} {first : Int} {pr ds out : List Int} (ad : Addr) (xs : List Int) (h : En 75 w lo E S W tot first (lst first pr) ds out) (hp : Pt wrap64 first pr ds out)
    (hr : ∀ W', Below lo w W' → ∀ i, i < xs.length → W'.cell? (ad.add i) = some (.int .i64 (xs.getD i 0))) (hn : 0 < xs.length) (ht : 0 < tot) (hl : pr.length + xs.length ≤ 2000) (htl : tot ≤ 2000) :
    Calls Try.prog 19 #[.pointer (some ⟨E, 0, none⟩), .slice (some ad) xs.length c] w fun e w' => e = .returned (.tuple #[]) ∧ ∃ ds' out', En 75 w' lo E S W (tot + xs.length) first (lst first (pr ++ xs)) ds' out' ∧ Pt wrap64 first (pr ++ xs) ds' out' ∧ Below lo w w' := by
  obtain ⟨dv, hE, hlo, hD, hS⟩ := h
  have e4 : w.cell? ⟨E, 4, none⟩ = some (.int .u64 (tot : Int)) := (blk_cell hE 4).trans rfl
  have f4 := blk_frozen hE 4
  have hd0 : ((xs.length : Int) == 0) = false := beq_eq_false_iff_ne.mpr (by omega)
  have hd1 : decide ((xs.length : Int) = 0) = false := decide_eq_false (by omega)
  have hd2 : ((tot : Int) == 0) = false := beq_eq_false_iff_ne.mpr (by omega)
  have hd3 : decide ((tot : Int) = 0) = false := decide_eq_false (by omega)
  have hw1 : IntKind.u64.wrap ((xs.length : Nat) : Int) = (xs.length : Int) := by simp [IntKind.wrap, IntKind.bits, IntKind.signed]; omega
  have hw2 : IntKind.u64.wrap ((tot : Int) + (xs.length : Int)) = (tot : Int) + (xs.length : Int) := by simp [IntKind.wrap, IntKind.bits, IntKind.signed]; omega
  have hE2 : (w.setCell ⟨E, 4, none⟩ (.int .u64 ((tot : Int) + (xs.length : Int)))).heap[E]? = some (.cells (encL S W (tot + xs.length) first (lst first pr) dv) 75 (0, 0)) := by
    have := blk_set hE 4 (.int .u64 ((tot : Int) + (xs.length : Int)))
    rw [this]
    simp [encL]
  have hD2 := hD.set_ hE (by decide) 4 (.int .u64 ((tot : Int) + (xs.length : Int)))
  have hS2 := hS.setE hE (by decide) (by decide) (by decide) (by decide) 4 (.int .u64 ((tot : Int) + (xs.length : Int)))
  have hB2 : Below lo w (w.setCell ⟨E, 4, none⟩ (.int .u64 ((tot : Int) + (xs.length : Int)))) := Below.setCell (p := ⟨E, 4, none⟩) (Below.refl _ _) hlo _
  have HEN := Aside0.mk (show En 75 (w.setCell ⟨E, 4, none⟩ (.int .u64 ((tot : Int) + (xs.length : Int)))) lo E S W (tot + xs.length) first (lst first pr) ds out from ⟨dv, hE2, hlo, hD2, hS2⟩)
  have HB2 := Aside0.mk hB2
  have HP := Aside0.mk hp
  have HR := Aside0.mk hr
  have HL := Aside0.mk (And.intro hl htl)
  have HLO := Aside0.mk hlo
  have HLS := Aside0.mk (show lo ≤ E ∧ E < w.heap.size from ⟨hlo, blk_lt hE⟩)
  clear hE hlo hD hS hE2 hD2 hS2 hB2 hp hr hl htl
  go_enter Try.func19, Try.ntmps19
  go_wp2
  generalize w.setCell ⟨E, 4, none⟩ (.int .u64 ((tot : Int) + (xs.length : Int))) = w1 at HEN HB2 ⊢
  clear e4 f4
  go_loopg [4] (xs.length + 1) (fun kq v4 w' => ∃ (i : Nat) (ds out : List Int), v4 = .int .i64 (i : Int) ∧ Aside0 (i + kq = xs.length + 1) ∧ Aside0 (i ≤ xs.length) ∧ Aside0 (En 75 w' lo E S W (tot + xs.length) first (lst first (pr ++ (xs.take i).drop 0)) ds out) ∧ Aside0 (Pt wrap64 first (pr ++ (xs.take i).drop 0) ds out) ∧ Aside0 (Below lo w w'))
  case atStart => exact ⟨0, ds, out, rfl, ⟨by omega⟩, ⟨by omega⟩, ⟨by simpa using HEN.out⟩, ⟨by simpa using HP.out⟩, HB2⟩
  case round =>
    obtain ⟨i, ds, out, rfl, HK, HI, HEN, HP, HB⟩ := hrel
    obtain ⟨k1, rfl⟩ : ∃ k1, gk = k1 + 1 := ⟨gk - 1, by have := HK.out; have := HI.out; omega⟩
    by_cases c : i < xs.length
    · have d1 : decide ((i : Int) < (xs.length : Int)) = true := decide_eq_true (by omega)
      have q1 : (0 : Int) ≤ (i : Int) := by omega
      have q2 : (i : Int) < (xs.length : Int) := by omega
      have hx := HR.out wr HB.out i c
      obtain ⟨dv, hE, hlo, hD, hS⟩ := HEN.out
      have e6 : wr.cell? ⟨E, 6, none⟩ = some (.int .i64 (lst first (pr ++ (xs.take i).drop 0))) := (blk_cell hE 6).trans rfl
      have e10 : wr.cell? ⟨E, 10, none⟩ = some dv := (blk_cell hE 10).trans rfl
      have hrs := rest_snoc pr xs 0 i (Nat.zero_le _) c
      generalize hxd : xs.getD i 0 = x at hx hrs
      have HXD := Aside0.mk hxd
      clear hxd
      generalize pr ++ (xs.take i).drop 0 = rest at HP e6 hE hrs
      have HX := Aside0.mk hrs
      have HE := Aside0.mk hE
      have HD := Aside0.mk hD
      have HS := Aside0.mk hS
      have HC := Aside0.mk c
      clear hrs hE hlo hD hS c
      have hdl := (HP.out.facts wrap64_fit (by have h1 := HL.out.1; have h2 := congrArg List.length HX.out; have h3 := HC.out; simp at h2; omega))
      have HDL := Aside0.mk hdl
      clear hdl
      go_wp2
      go_quiet (fail)
      go_upto_region 15 with (first | ((with_reducible refine gate_builtin (b := .append) (xs := #[.tmp 75, .tmp 77]) rfl ?_); at_builtin; refine Kd.R_append (Kd.int .i64) (w0 := w) lo rfl (.tmp 75) (.tmp 77) 24 2 (.int .i64 0) 8 rfl Try.underlying24 info2 rfl (by decide) (by omega) dv ds (wrap64 (x - lst first rest)) [.int .i64 (wrap64 (x - lst first rest))] (fun _ => True) (fun _ => False) rfl rfl ?aP (fun _ hk => hk.elim) ?aF ?aO ?aB ?aS ?aL ?_; (case aP => exact rfl); (case aB => exact pw_below_drewN HB.out _); (case aF => exact (fun _ _ => trivial)); (case aO => exact Kd.R_drewN HD.out.R _); (case aS => have h1 := HLS.out; have h2 := HB.out.size; show lo ≤ wr.heap.size; omega); (case aL => have := HDL.out.2.1; omega); intro v1 w1 ho hb hg hat; obtain ⟨A1, c1, rfl⟩ := Kd.R_slice ho; have k2 := keep2_of_grown (show Dl (wr.drewN nq) lo dv ds from HD.out) hg; have hE1 := k2 E 75 _ HE.out (by decide); have e10' : w1.cell? ⟨E, 10, none⟩ = some dv := (blk_cell hE1 10).trans rfl; have z10' := blk_frozen hE1 10; have HW1 := Aside0.mk (And.intro hE1 (And.intro (Dl.of_R ho) (And.intro ((HS.out.drewN nq).keep2 k2) hb))); clear ho hb hg hat k2 hE1))
      obtain ⟨hE1, hD1, hS1, hb1⟩ := HW1.out
      have hE2 := blk_set hE1 10 (.slice A1 (ds.length + 1) c1)
      rw [List.length_append, List.length_singleton] at hD1
      have hD2 := hD1.set_ hE1 (by decide) 10 (.slice A1 (ds.length + 1) c1)
      have hS2 := hS1.setE hE1 (by decide) (by decide) (by decide) (by decide) 10 (.slice A1 (ds.length + 1) c1)
      have hb2 := Below.setCell (p := ⟨E, 10, none⟩) hb1 HLO.out (.slice A1 (ds.length + 1) c1)
      change (w1.setCell ⟨E, 10, none⟩ (.slice A1 (ds.length + 1) c1)).heap[E]? = some (.cells (encL S W (tot + xs.length) first (lst first rest) (.slice A1 (ds.length + 1) c1)) 75 (0, 0)) at hE2
      clear hE1 hD1 hS1 hb1 HW1 e10' z10'
      generalize w1.setCell ⟨E, 10, none⟩ (.slice A1 (ds.length + 1) c1) = w2 at hE2 hD2 hS2 hb2 ⊢
      have hx2 := HR.out w2 hb2 i HC.out
      rw [HXD.out] at hx2
      have y6 : w2.cell? ⟨E, 6, none⟩ = some (.int .i64 (lst first rest)) := (blk_cell hE2 6).trans rfl
      have z6 := blk_frozen hE2 6
      have hen3 := En.push (x := x) hE2 HLO.out hD2 hS2 (by decide) (by decide) (by decide) (by decide) (by decide)
      have hE3 := blk_set hE2 6 (.int .i64 x)
      have hb3 := Below.setCell (p := ⟨E, 6, none⟩) hb2 HLO.out (.int .i64 x)
      change (w2.setCell ⟨E, 6, none⟩ (.int .i64 x)).heap[E]? = some (.cells (encL S W (tot + xs.length) first x (.slice A1 (ds.length + 1) c1)) 75 (0, 0)) at hE3
      have EN3 := Aside0.mk hen3
      have E3 := Aside0.mk hE3
      have B3 := Aside0.mk hb3
      clear hE2 hD2 hS2 hb2 hen3 hE3 hb3
      go_upto_region 16 with (fail)
      have hE3 := E3.out
      have hen3 := EN3.out
      have hb3 := B3.out
      generalize w2.setCell ⟨E, 6, none⟩ (.int .i64 x) = w3 at hE3 hen3 hb3 ⊢
      clear y6 z6 hx2 E3 EN3 B3
      have y10 : w3.cell? ⟨E, 10, none⟩ = some (.slice A1 (ds.length + 1) c1) := (blk_cell hE3 10).trans rfl
      have y7 : w3.cell? ⟨E, 7, none⟩ = some (.int .u64 128) := (blk_cell hE3 7).trans rfl
      have hw : IntKind.i64.wrap ((i : Int) + 1) = ((i + 1 : Nat) : Int) := by rw [IntKind.wrap_i64]; have h1 := HL.out.1; have h2 := HC.out; omega
      have hpl : (pr ++ (xs.take (i + 1)).drop 0).length ≤ 2000 := by have h1 := HL.out.1; have h3 := HC.out; simp; omega
      have HPL := Aside0.mk hpl
      have EN3 := Aside0.mk hen3
      have B3 := Aside0.mk hb3
      clear hE3 hen3 hb3 hpl
      by_cases c : ds.length = 127
      · have d2 : ((((ds.length + 1 : Nat)) : Int) == 128) = true := beq_iff_eq.mpr (by omega)
        have d3 : decide ((((ds.length + 1 : Nat)) : Int) = 128) = true := decide_eq_true (by omega)
        have hpt := HP.out.full x c
        rw [← HX.out] at hpt
        have HPT := Aside0.mk hpt
        have HFB := Aside0.mk (fun n => fb64_calls (EN3.out.drewN n) (fit_snoc HDL.out.1 (wrap64_fit _)) (by simp; omega) (by simp) (by have := HDL.out.2.2; omega))
        clear hpt c
        go_quiet (fail)
        go_wp2_with (first | (go_at_call 29; with_reducible refine (HFB.out nq).mono ?_; rintro e w4 ⟨rfl, n4, b4⟩; have EN4 := Aside0.mk n4; have B4 := Aside0.mk ((pw_below_drewN B3.out nq).trans b4); clear n4 b4))
        go_roundg k1
        case measure => omega
        case rel => exact ⟨i + 1, [], out ++ block (ds ++ [wrap64 (x - lst first rest)]), by simp, ⟨by have := HK.out; omega⟩, ⟨by have := HC.out; omega⟩, ⟨by rw [HX.out, lst_snoc]; exact EN4.out⟩, HPT, B4⟩
      · have d2 : ((((ds.length + 1 : Nat)) : Int) == 128) = false := beq_eq_false_iff_ne.mpr (by omega)
        have d3 : decide ((((ds.length + 1 : Nat)) : Int) = 128) = false := decide_eq_false (by omega)
        have hpt := HP.out.wait x c
        rw [← HX.out] at hpt
        have HPT := Aside0.mk hpt
        clear hpt c
        go_quiet (fail)
        go_wp2
        go_roundg k1
        case measure => omega
        case rel => exact ⟨i + 1, ds ++ [wrap64 (x - lst first rest)], out, by simp, ⟨by have := HK.out; omega⟩, ⟨by have := HC.out; omega⟩, ⟨by rw [HX.out, lst_snoc]; exact EN3.out.drewN _⟩, HPT, ⟨pw_below_drewN B3.out _⟩⟩
    · have d1 : decide ((i : Int) < (xs.length : Int)) = false := decide_eq_false (by omega)
      have hi : i = xs.length := by have := HI.out; omega
      subst hi
      have htk : pr ++ (xs.take xs.length).drop 0 = pr ++ xs := by simp
      rw [htk] at HEN HP
      clear c htk
      go_wp2
      go_end0
      exact ⟨rfl, ds, out, HEN.out, HP.out, HB.out⟩
end Go.Proofs.Ytdekingogcmboaa.Q

/- The first numbers of 64 bits put. -/
namespace Go.Proofs.Ytdekingogcmboaa.Q
open Go.RowKit Go.Proofs.YtdekingogcmboaaW.PrintWords Go.Proofs.YtdekingogcmboaaW.PrintLast Go.Proofs.YtdekingogcmboaaW.PrintMore
set_option linter.unusedVariables false
set_option linter.unusedSimpArgs false
/-- An encoder that nothing was put into. -/
def enc0 (S : Nat) : Array Value := #[.iface 51 (.agg #[]), .pointer (some ⟨S, 0, none⟩), .int .i64 0, .pointer none, .int .u64 0, .int .i64 0, .int .i64 0, .int .u64 0, .int .u64 0, .int .u64 0, .slice none 0 0, .pointer none]
theorem Sk.setE {w : World} {lo S : Nat} (h : Sk w lo S) {E : Nat} {T : TypeId} {cs : Array Value} (hE : w.heap[E]? = some (.cells cs T (0, 0))) (h2 : T ≠ 110) (h3 : T ≠ 117) (h4 : T ≠ 5) (j : Nat) (u : Value) : Sk (w.setCell ⟨E, j, none⟩ u) lo S := by
  obtain ⟨B, D, k, q, G, s, l⟩ := h
  exact ⟨B, D, k, q, G, ⟨blk_far s.s (p := ⟨E, j, none⟩) (blk_ne s.s hE (Ne.symm h2)) u, ⟨blk_far s.b.1 (p := ⟨E, j, none⟩) (blk_ne s.b.1 hE (Ne.symm h3)) u, blk_far s.b.2 (p := ⟨E, j, none⟩) (blk_ne s.b.2 hE (Ne.symm h4)) u⟩, s.le, s.lo, s.hi⟩, l⟩
set_option maxHeartbeats 8000000 in
set_option maxRecDepth 100000 in
theorem put64_first {w : World} {lo E S c : Nat} (ad : Addr) (xs : List Int) (hE : w.heap[E]? = some (.cells (enc0 S) 75 (0, 0))) (hlo : lo ≤ E) (hS : Sk w lo S)
    (hr : ∀ W', Below lo w W' → ∀ i, i < xs.length → W'.cell? (ad.add i) = some (.int .i64 (xs.getD i 0))) (hn : 0 < xs.length) (hl0 : xs.length ≤ 2000) (first : Int) (hfirst : first = xs.getD 0 0) :
    Calls Try.prog 19 #[.pointer (some ⟨E, 0, none⟩), .slice (some ad) xs.length c] w fun e w' => e = .returned (.tuple #[]) ∧ ∃ Wb ds' out', En 75 w' lo E S Wb xs.length first (lst first (xs.drop 1)) ds' out' ∧ Pt wrap64 first (xs.drop 1) ds' out' ∧ Below lo w w' := by
  obtain ⟨pr, hpr⟩ : ∃ pr : List Int, pr = [] := ⟨_, rfl⟩
  have hdrop : [] ++ (xs.take 1).drop 1 = ([] : List Int) := by simp
  have e4 : w.cell? ⟨E, 4, none⟩ = some (.int .u64 0) := (blk_cell hE 4).trans rfl
  have y7 : w.cell? ⟨E, 7, none⟩ = some (.int .u64 0) := (blk_cell hE 7).trans rfl
  have y8 : w.cell? ⟨E, 8, none⟩ = some (.int .u64 0) := (blk_cell hE 8).trans rfl
  have y9 : w.cell? ⟨E, 9, none⟩ = some (.int .u64 0) := (blk_cell hE 9).trans rfl
  have z7 := blk_frozen hE 7
  have z8 := blk_frozen hE 8
  have z9 := blk_frozen hE 9
  have hd0 : ((xs.length : Int) == 0) = false := beq_eq_false_iff_ne.mpr (by omega)
  have hd1 : decide ((xs.length : Int) = 0) = false := decide_eq_false (by omega)
  have hw1 : IntKind.u64.wrap ((xs.length : Nat) : Int) = (xs.length : Int) := by simp [IntKind.wrap, IntKind.bits, IntKind.signed]; omega
  have k1 := blk_set hE 7 (.int .u64 128)
  have k2 := blk_set k1 9 (.int .u64 4)
  have k3 := blk_set k2 8 (.int .u64 32)
  have s1 := hS.setE hE (by decide) (by decide) (by decide) 7 (.int .u64 128)
  have s2 := s1.setE k1 (by decide) (by decide) (by decide) 9 (.int .u64 4)
  have s3 := s2.setE k2 (by decide) (by decide) (by decide) 8 (.int .u64 32)
  have b3 : Below lo w (((w.setCell ⟨E, 7, none⟩ (.int .u64 128)).setCell ⟨E, 9, none⟩ (.int .u64 4)).setCell ⟨E, 8, none⟩ (.int .u64 32)) := Below.setCell (p := ⟨E, 8, none⟩) (Below.setCell (p := ⟨E, 9, none⟩) (Below.setCell (p := ⟨E, 7, none⟩) (Below.refl _ _) hlo _) hlo _) hlo _
  have X3 := Aside0.mk (And.intro k3 (And.intro s3 b3))
  have HR := Aside0.mk hr
  have HL := Aside0.mk (show pr.length + xs.length ≤ 2000 ∧ 0 ≤ 2000 by rw [hpr]; simp; omega)
  have HLO := Aside0.mk hlo
  have HLS := Aside0.mk (show lo ≤ E ∧ E < w.heap.size from ⟨hlo, blk_lt hE⟩)
  have HFI := Aside0.mk hfirst
  clear hfirst hE hlo hS k1 k2 k3 s1 s2 s3 b3 hr hl0
  go_enter Try.func19, Try.ntmps19
  go_upto_region 6 with (fail)
  obtain ⟨k3, s3, b3⟩ := X3.out
  generalize ((w.setCell ⟨E, 7, none⟩ (.int .u64 128)).setCell ⟨E, 9, none⟩ (.int .u64 4)).setCell ⟨E, 8, none⟩ (.int .u64 32) = w1 at k3 s3 b3 ⊢
  clear X3 e4 y7 y8 y9 z7 z8 z9
  have hx0 := HR.out w1 b3 0 hn
  rw [← HFI.out] at hx0
  have hx00 : w1.cell? ad = some (.int .i64 first) := by simpa [Addr.add] using hx0
  have y5 : w1.cell? ⟨E, 5, none⟩ = some (.int .i64 0) := (blk_cell k3 5).trans rfl
  have y6 : w1.cell? ⟨E, 6, none⟩ = some (.int .i64 0) := (blk_cell k3 6).trans rfl
  have z5 := blk_frozen k3 5
  have z6 := blk_frozen k3 6
  have k4 := blk_set k3 5 (.int .i64 first)
  have k5 := blk_set k4 6 (.int .i64 first)
  have s4 := s3.setE k3 (by decide) (by decide) (by decide) 5 (.int .i64 first)
  have s5 := s4.setE k4 (by decide) (by decide) (by decide) 6 (.int .i64 first)
  have b5 := Below.setCell (p := ⟨E, 6, none⟩) (Below.setCell (p := ⟨E, 5, none⟩) b3 HLO.out (.int .i64 first)) HLO.out (.int .i64 first)
  have X5 := Aside0.mk (And.intro k5 (And.intro s5 b5))
  clear k3 s3 b3 k4 k5 s4 s5 b5
  go_upto_region 9 with (fail)
  obtain ⟨k5, s5, b5⟩ := X5.out
  generalize (w1.setCell ⟨E, 5, none⟩ (.int .i64 first)).setCell ⟨E, 6, none⟩ (.int .i64 first) = w2 at k5 s5 b5 ⊢
  clear X5 y5 y6 z5 z6 hx0 hx00
  have y1 : w2.cell? ⟨E, 1, none⟩ = some (.pointer (some ⟨S, 0, none⟩)) := (blk_cell k5 1).trans rfl
  have hsm := s5.sm
  have k6 := blk_alloc k5 (.cells (bwL (.iface 68 (.pointer (some ⟨S, 0, none⟩))) 0 0 0 (List.replicate 18 0)).toArray 95)
  have b6 : Below lo w (w2.alloc (.cells (bwL (.iface 68 (.pointer (some ⟨S, 0, none⟩))) 0 0 0 (List.replicate 18 0)).toArray 95)) := b5.trans ((below_alloc (Below.refl _ _) _).mono (by have := blk_lt k5; have := HLO.out; omega))
  have HNB := Aside0.mk (newbw_calls S w2)
  obtain ⟨Wb, hWb⟩ : ∃ Wb, Wb = w2.heap.size := ⟨_, rfl⟩
  rw [← hWb] at hsm HNB
  generalize w2.alloc (.cells (bwL (.iface 68 (.pointer (some ⟨S, 0, none⟩))) 0 0 0 (List.replicate 18 0)).toArray 95) = w3 at hsm k6 b6 HNB
  have y3 : w3.cell? ⟨E, 3, none⟩ = some (.pointer none) := (blk_cell k6 3).trans rfl
  have z3 := blk_frozen k6 3
  have k7 := blk_set k6 3 (.pointer (some ⟨Wb, 0, none⟩))
  have s7 := hsm.setE k6 (by decide) (by decide) (by decide) (by decide) 3 (.pointer (some ⟨Wb, 0, none⟩))
  have b7 := Below.setCell (p := ⟨E, 3, none⟩) b6 HLO.out (.pointer (some ⟨Wb, 0, none⟩))
  have X7 := Aside0.mk (And.intro k7 (And.intro s7 b7))
  clear k5 s5 b5 hsm k6 b6 k7 s7 b7 hWb
  go_upto_region 10 with (first | (go_at_call 28; with_reducible refine HNB.out.mono ?_; rintro e w4 ⟨rfl, hw4⟩; subst w4))
  obtain ⟨k7, s7, b7⟩ := X7.out
  change (w3.setCell ⟨E, 3, none⟩ (.pointer (some ⟨Wb, 0, none⟩))).heap[E]? = some (.cells (encL S Wb 0 first first (.slice none 0 0)) 75 (0, 0)) at k7
  generalize w3.setCell ⟨E, 3, none⟩ (.pointer (some ⟨Wb, 0, none⟩)) = w4 at k7 s7 b7 ⊢
  clear X7 y1 y3 z3 HNB
  have e4 : w4.cell? ⟨E, 4, none⟩ = some (.int .u64 0) := (blk_cell k7 4).trans rfl
  have f4 := blk_frozen k7 4
  have k8 := blk_set k7 4 (.int .u64 (xs.length : Int))
  change (w4.setCell ⟨E, 4, none⟩ (.int .u64 (xs.length : Int))).heap[E]? = some (.cells (encL S Wb xs.length first first (.slice none 0 0)) 75 (0, 0)) at k8
  have s8 := s7.setE k7 (by decide) (by decide) (by decide) (by decide) 4 (.int .u64 (xs.length : Int))
  have b8 := Below.setCell (p := ⟨E, 4, none⟩) b7 HLO.out (.int .u64 (xs.length : Int))
  have HEN := Aside0.mk (show En 75 (w4.setCell ⟨E, 4, none⟩ (.int .u64 (xs.length : Int))) lo E S Wb xs.length first (lst first []) [] [] from ⟨.slice none 0 0, k8, HLO.out, ⟨rfl, .inl ⟨rfl, rfl⟩⟩, s8⟩)
  have HB2 := Aside0.mk b8
  clear k7 s7 b7 k8 s8 b8
  go_wp2
  generalize w4.setCell ⟨E, 4, none⟩ (.int .u64 (xs.length : Int)) = w5 at HEN HB2 ⊢
  clear e4 f4
  go_loopg [4] (xs.length + 1) (fun kq v4 w' => ∃ (i : Nat) (ds out : List Int), v4 = .int .i64 (i : Int) ∧ Aside0 (i + kq = xs.length + 2) ∧ Aside0 (1 ≤ i ∧ i ≤ xs.length) ∧ Aside0 (En 75 w' lo E S Wb xs.length first (lst first (pr ++ (xs.take i).drop 1)) ds out) ∧ Aside0 (Pt wrap64 first (pr ++ (xs.take i).drop 1) ds out) ∧ Aside0 (Below lo w w'))
  case atStart => exact ⟨1, [], [], rfl, ⟨by omega⟩, ⟨by omega⟩, ⟨by rw [hpr, hdrop]; exact HEN.out⟩, ⟨by rw [hpr, hdrop]; exact Pt.nil _ _⟩, HB2⟩
  case round =>
    obtain ⟨i, ds, out, rfl, HK, HI, HEN, HP, HB⟩ := hrel
    obtain ⟨k1, rfl⟩ : ∃ k1, gk = k1 + 1 := ⟨gk - 1, by have := HK.out; have := HI.out; omega⟩
    by_cases c : i < xs.length
    · have d1 : decide ((i : Int) < (xs.length : Int)) = true := decide_eq_true (by omega)
      have q1 : (0 : Int) ≤ (i : Int) := by omega
      have q2 : (i : Int) < (xs.length : Int) := by omega
      have hx := HR.out wr HB.out i c
      obtain ⟨dv, hE, hlo, hD, hS⟩ := HEN.out
      have e6 : wr.cell? ⟨E, 6, none⟩ = some (.int .i64 (lst first (pr ++ (xs.take i).drop 1))) := (blk_cell hE 6).trans rfl
      have e10 : wr.cell? ⟨E, 10, none⟩ = some dv := (blk_cell hE 10).trans rfl
      have hrs := rest_snoc pr xs 1 i HI.out.1 c
      generalize hxd : xs.getD i 0 = x at hx hrs
      have HXD := Aside0.mk hxd
      clear hxd
      generalize pr ++ (xs.take i).drop 1 = rest at HP e6 hE hrs
      have HX := Aside0.mk hrs
      have HE := Aside0.mk hE
      have HD := Aside0.mk hD
      have HS := Aside0.mk hS
      have HC := Aside0.mk c
      clear hrs hE hlo hD hS c
      have hdl := (HP.out.facts wrap64_fit (by have h1 := HL.out.1; have h2 := congrArg List.length HX.out; have h3 := HC.out; simp at h2; omega))
      have HDL := Aside0.mk hdl
      clear hdl
      go_wp2
      go_quiet (fail)
      go_upto_region 15 with (first | ((with_reducible refine gate_builtin (b := .append) (xs := #[.tmp 75, .tmp 77]) rfl ?_); at_builtin; refine Kd.R_append (Kd.int .i64) (w0 := w) lo rfl (.tmp 75) (.tmp 77) 24 2 (.int .i64 0) 8 rfl Try.underlying24 info2 rfl (by decide) (by omega) dv ds (wrap64 (x - lst first rest)) [.int .i64 (wrap64 (x - lst first rest))] (fun _ => True) (fun _ => False) rfl rfl ?aP (fun _ hk => hk.elim) ?aF ?aO ?aB ?aS ?aL ?_; (case aP => exact rfl); (case aB => exact pw_below_drewN HB.out _); (case aF => exact (fun _ _ => trivial)); (case aO => exact Kd.R_drewN HD.out.R _); (case aS => have h1 := HLS.out; have h2 := HB.out.size; show lo ≤ wr.heap.size; omega); (case aL => have := HDL.out.2.1; omega); intro v1 w1 ho hb hg hat; obtain ⟨A1, c1, rfl⟩ := Kd.R_slice ho; have k2 := keep2_of_grown (show Dl (wr.drewN nq) lo dv ds from HD.out) hg; have hE1 := k2 E 75 _ HE.out (by decide); have e10' : w1.cell? ⟨E, 10, none⟩ = some dv := (blk_cell hE1 10).trans rfl; have z10' := blk_frozen hE1 10; have HW1 := Aside0.mk (And.intro hE1 (And.intro (Dl.of_R ho) (And.intro ((HS.out.drewN nq).keep2 k2) hb))); clear ho hb hg hat k2 hE1))
      obtain ⟨hE1, hD1, hS1, hb1⟩ := HW1.out
      have hE2 := blk_set hE1 10 (.slice A1 (ds.length + 1) c1)
      rw [List.length_append, List.length_singleton] at hD1
      have hD2 := hD1.set_ hE1 (by decide) 10 (.slice A1 (ds.length + 1) c1)
      have hS2 := hS1.setE hE1 (by decide) (by decide) (by decide) (by decide) 10 (.slice A1 (ds.length + 1) c1)
      have hb2 := Below.setCell (p := ⟨E, 10, none⟩) hb1 HLO.out (.slice A1 (ds.length + 1) c1)
      change (w1.setCell ⟨E, 10, none⟩ (.slice A1 (ds.length + 1) c1)).heap[E]? = some (.cells (encL S Wb xs.length first (lst first rest) (.slice A1 (ds.length + 1) c1)) 75 (0, 0)) at hE2
      clear hE1 hD1 hS1 hb1 HW1 e10' z10'
      generalize w1.setCell ⟨E, 10, none⟩ (.slice A1 (ds.length + 1) c1) = w2 at hE2 hD2 hS2 hb2 ⊢
      have hx2 := HR.out w2 hb2 i HC.out
      rw [HXD.out] at hx2
      have y6 : w2.cell? ⟨E, 6, none⟩ = some (.int .i64 (lst first rest)) := (blk_cell hE2 6).trans rfl
      have z6 := blk_frozen hE2 6
      have hen3 := En.push (x := x) hE2 HLO.out hD2 hS2 (by decide) (by decide) (by decide) (by decide) (by decide)
      have hE3 := blk_set hE2 6 (.int .i64 x)
      have hb3 := Below.setCell (p := ⟨E, 6, none⟩) hb2 HLO.out (.int .i64 x)
      change (w2.setCell ⟨E, 6, none⟩ (.int .i64 x)).heap[E]? = some (.cells (encL S Wb xs.length first x (.slice A1 (ds.length + 1) c1)) 75 (0, 0)) at hE3
      have EN3 := Aside0.mk hen3
      have E3 := Aside0.mk hE3
      have B3 := Aside0.mk hb3
      clear hE2 hD2 hS2 hb2 hen3 hE3 hb3
      go_upto_region 16 with (fail)
      have hE3 := E3.out
      have hen3 := EN3.out
      have hb3 := B3.out
      generalize w2.setCell ⟨E, 6, none⟩ (.int .i64 x) = w3 at hE3 hen3 hb3 ⊢
      clear y6 z6 hx2 E3 EN3 B3
      have y10 : w3.cell? ⟨E, 10, none⟩ = some (.slice A1 (ds.length + 1) c1) := (blk_cell hE3 10).trans rfl
      have y7 : w3.cell? ⟨E, 7, none⟩ = some (.int .u64 128) := (blk_cell hE3 7).trans rfl
      have hw : IntKind.i64.wrap ((i : Int) + 1) = ((i + 1 : Nat) : Int) := by rw [IntKind.wrap_i64]; have h1 := HL.out.1; have h2 := HC.out; omega
      have hpl : (pr ++ (xs.take (i + 1)).drop 1).length ≤ 2000 := by have h1 := HL.out.1; have h3 := HC.out; simp; omega
      have HPL := Aside0.mk hpl
      have EN3 := Aside0.mk hen3
      have B3 := Aside0.mk hb3
      clear hE3 hen3 hb3 hpl
      by_cases c : ds.length = 127
      · have d2 : ((((ds.length + 1 : Nat)) : Int) == 128) = true := beq_iff_eq.mpr (by omega)
        have d3 : decide ((((ds.length + 1 : Nat)) : Int) = 128) = true := decide_eq_true (by omega)
        have hpt := HP.out.full x c
        rw [← HX.out] at hpt
        have HPT := Aside0.mk hpt
        have HFB := Aside0.mk (fun n => fb64_calls (EN3.out.drewN n) (fit_snoc HDL.out.1 (wrap64_fit _)) (by simp; omega) (by simp) (by have := HDL.out.2.2; omega))
        clear hpt c
        go_quiet (fail)
        go_wp2_with (first | (go_at_call 29; with_reducible refine (HFB.out nq).mono ?_; rintro e w4 ⟨rfl, n4, b4⟩; have EN4 := Aside0.mk n4; have B4 := Aside0.mk ((pw_below_drewN B3.out nq).trans b4); clear n4 b4))
        go_roundg k1
        case measure => omega
        case rel => exact ⟨i + 1, [], out ++ block (ds ++ [wrap64 (x - lst first rest)]), by simp, ⟨by have := HK.out; omega⟩, ⟨by have := HC.out; omega⟩, ⟨by rw [HX.out, lst_snoc]; exact EN4.out⟩, HPT, B4⟩
      · have d2 : ((((ds.length + 1 : Nat)) : Int) == 128) = false := beq_eq_false_iff_ne.mpr (by omega)
        have d3 : decide ((((ds.length + 1 : Nat)) : Int) = 128) = false := decide_eq_false (by omega)
        have hpt := HP.out.wait x c
        rw [← HX.out] at hpt
        have HPT := Aside0.mk hpt
        clear hpt c
        go_quiet (fail)
        go_wp2
        go_roundg k1
        case measure => omega
        case rel => exact ⟨i + 1, ds ++ [wrap64 (x - lst first rest)], out, by simp, ⟨by have := HK.out; omega⟩, ⟨by have := HC.out; omega⟩, ⟨by rw [HX.out, lst_snoc]; exact EN3.out.drewN _⟩, HPT, ⟨pw_below_drewN B3.out _⟩⟩
    · have d1 : decide ((i : Int) < (xs.length : Int)) = false := decide_eq_false (by omega)
      have hi : i = xs.length := by have := HI.out; omega
      subst hi
      have htk : pr ++ (xs.take xs.length).drop 1 = xs.drop 1 := by rw [hpr, List.take_length]; rfl
      rw [htk] at HEN HP
      clear c htk
      go_wp2
      go_end0
      exact ⟨rfl, Wb, ds, out, HEN.out, HP.out, HB.out⟩
end Go.Proofs.Ytdekingogcmboaa.Q

/- Numbers of 32 bits put, later. -/
namespace Go.Proofs.Ytdekingogcmboaa.Q
open Go.RowKit Go.Proofs.YtdekingogcmboaaW.PrintWords Go.Proofs.YtdekingogcmboaaW.PrintLast Go.Proofs.YtdekingogcmboaaW.PrintMore
set_option linter.unusedVariables false
set_option linter.unusedSimpArgs false
theorem wrap32_fit (x : Int) : -9223372036854775808 ≤ wrap32 x ∧ wrap32 x ≤ 9223372036854775807 := by unfold wrap32; omega
theorem sub32 (x c : Int) : IntKind.i32.wrap (x - IntKind.i32.wrap c) = wrap32 (x - c) ∧ wrap32 (x - wrap32 c) = wrap32 (x - c) ∧ IntKind.i32.wrap (x - wrap32 c) = wrap32 (x - c) ∧ wrap32 (x - IntKind.i32.wrap c) = wrap32 (x - c) ∧ IntKind.i64.wrap (wrap32 (x - c)) = wrap32 (x - c) ∧ wrap64 (wrap32 (x - c)) = wrap32 (x - c) := by
  have e : ∀ y, IntKind.i32.wrap y = wrap32 y := fun y => by unfold wrap32; exact IntKind.wrap_i32 y
  have e2 : ∀ y, IntKind.i64.wrap y = wrap64 y := fun y => by unfold wrap64; exact IntKind.wrap_i64 y
  simp only [e, e2]
  unfold wrap32 wrap64
  omega
set_option maxHeartbeats 8000000 in
set_option maxRecDepth 100000 in
theorem put32_more {w : World} {lo E S W tot c : Nat} {first : Int} {pr ds out : List Int} (ad : Addr) (xs : List Int) (h : En 90 w lo E S W tot first (lst first pr) ds out) (hp : Pt wrap32 first pr ds out)
    (hr : ∀ W', Below lo w W' → ∀ i, i < xs.length → W'.cell? (ad.add i) = some (.int .i32 (xs.getD i 0))) (hn : 0 < xs.length) (ht : 0 < tot) (hl : pr.length + xs.length ≤ 2000) (htl : tot ≤ 2000) (hx32 : ∀ i, i < xs.length → -2147483648 ≤ xs.getD i 0 ∧ xs.getD i 0 ≤ 2147483647) :
    Calls Try.prog 23 #[.pointer (some ⟨E, 0, none⟩), .slice (some ad) xs.length c] w fun e w' => e = .returned (.tuple #[]) ∧ ∃ ds' out', En 90 w' lo E S W (tot + xs.length) first (lst first (pr ++ xs)) ds' out' ∧ Pt wrap32 first (pr ++ xs) ds' out' ∧ Below lo w w' := by
  obtain ⟨dv, hE, hlo, hD, hS⟩ := h
  have e4 : w.cell? ⟨E, 4, none⟩ = some (.int .u64 (tot : Int)) := (blk_cell hE 4).trans rfl
  have f4 := blk_frozen hE 4
  have hd0 : ((xs.length : Int) == 0) = false := beq_eq_false_iff_ne.mpr (by omega)
  have hd1 : decide ((xs.length : Int) = 0) = false := decide_eq_false (by omega)
  have hd2 : ((tot : Int) == 0) = false := beq_eq_false_iff_ne.mpr (by omega)
  have hd3 : decide ((tot : Int) = 0) = false := decide_eq_false (by omega)
  have hw1 : IntKind.u64.wrap ((xs.length : Nat) : Int) = (xs.length : Int) := by simp [IntKind.wrap, IntKind.bits, IntKind.signed]; omega
  have hw2 : IntKind.u64.wrap ((tot : Int) + (xs.length : Int)) = (tot : Int) + (xs.length : Int) := by simp [IntKind.wrap, IntKind.bits, IntKind.signed]; omega
  have hE2 : (w.setCell ⟨E, 4, none⟩ (.int .u64 ((tot : Int) + (xs.length : Int)))).heap[E]? = some (.cells (encL S W (tot + xs.length) first (lst first pr) dv) 90 (0, 0)) := by
    have := blk_set hE 4 (.int .u64 ((tot : Int) + (xs.length : Int)))
    rw [this]
    simp [encL]
  have hD2 := hD.set_ hE (by decide) 4 (.int .u64 ((tot : Int) + (xs.length : Int)))
  have hS2 := hS.setE hE (by decide) (by decide) (by decide) (by decide) 4 (.int .u64 ((tot : Int) + (xs.length : Int)))
  have hB2 : Below lo w (w.setCell ⟨E, 4, none⟩ (.int .u64 ((tot : Int) + (xs.length : Int)))) := Below.setCell (p := ⟨E, 4, none⟩) (Below.refl _ _) hlo _
  have HEN := Aside0.mk (show En 90 (w.setCell ⟨E, 4, none⟩ (.int .u64 ((tot : Int) + (xs.length : Int)))) lo E S W (tot + xs.length) first (lst first pr) ds out from ⟨dv, hE2, hlo, hD2, hS2⟩)
  have HB2 := Aside0.mk hB2
  have HP := Aside0.mk hp
  have HR := Aside0.mk hr
  have HL := Aside0.mk (And.intro hl htl)
  have HX32 := Aside0.mk hx32
  have HLO := Aside0.mk hlo
  have HLS := Aside0.mk (show lo ≤ E ∧ E < w.heap.size from ⟨hlo, blk_lt hE⟩)
  clear hE hlo hD hS hE2 hD2 hS2 hB2 hp hr hl htl hx32
  go_enter Try.func23, Try.ntmps23
  go_wp2
  generalize w.setCell ⟨E, 4, none⟩ (.int .u64 ((tot : Int) + (xs.length : Int))) = w1 at HEN HB2 ⊢
  clear e4 f4
  go_loopg [4] (xs.length + 1) (fun kq v4 w' => ∃ (i : Nat) (ds out : List Int), v4 = .int .i64 (i : Int) ∧ Aside0 (i + kq = xs.length + 1) ∧ Aside0 (i ≤ xs.length) ∧ Aside0 (En 90 w' lo E S W (tot + xs.length) first (lst first (pr ++ (xs.take i).drop 0)) ds out) ∧ Aside0 (Pt wrap32 first (pr ++ (xs.take i).drop 0) ds out) ∧ Aside0 (Below lo w w'))
  case atStart => exact ⟨0, ds, out, rfl, ⟨by omega⟩, ⟨by omega⟩, ⟨by simpa using HEN.out⟩, ⟨by simpa using HP.out⟩, HB2⟩
  case round =>
    obtain ⟨i, ds, out, rfl, HK, HI, HEN, HP, HB⟩ := hrel
    obtain ⟨k1, rfl⟩ : ∃ k1, gk = k1 + 1 := ⟨gk - 1, by have := HK.out; have := HI.out; omega⟩
    by_cases c : i < xs.length
    · have d1 : decide ((i : Int) < (xs.length : Int)) = true := decide_eq_true (by omega)
      have q1 : (0 : Int) ≤ (i : Int) := by omega
      have q2 : (i : Int) < (xs.length : Int) := by omega
      have hx := HR.out wr HB.out i c
      obtain ⟨dv, hE, hlo, hD, hS⟩ := HEN.out
      have e6 : wr.cell? ⟨E, 6, none⟩ = some (.int .i64 (lst first (pr ++ (xs.take i).drop 0))) := (blk_cell hE 6).trans rfl
      have e10 : wr.cell? ⟨E, 10, none⟩ = some dv := (blk_cell hE 10).trans rfl
      have hrs := rest_snoc pr xs 0 i (Nat.zero_le _) c
      generalize hxd : xs.getD i 0 = x at hx hrs
      have hxb := HX32.out i c
      rw [hxd] at hxb
      have v1 : IntKind.i64.wrap x = x := by rw [IntKind.wrap_i64]; omega
      have v2 : wrap64 x = x := by unfold wrap64; omega
      have HV := Aside0.mk (sub32 x)
      have HXD := Aside0.mk hxd
      clear hxd hxb
      generalize pr ++ (xs.take i).drop 0 = rest at HP e6 hE hrs
      have u1 := (HV.out (lst first rest)).1
      have u2 := (HV.out (lst first rest)).2.1
      have u3 := (HV.out (lst first rest)).2.2.1
      have u4 := (HV.out (lst first rest)).2.2.2.1
      have u5 := (HV.out (lst first rest)).2.2.2.2.1
      have u6 := (HV.out (lst first rest)).2.2.2.2.2
      have HX := Aside0.mk hrs
      have HE := Aside0.mk hE
      have HD := Aside0.mk hD
      have HS := Aside0.mk hS
      have HC := Aside0.mk c
      clear hrs hE hlo hD hS c
      have hdl := (HP.out.facts wrap32_fit (by have h1 := HL.out.1; have h2 := congrArg List.length HX.out; have h3 := HC.out; simp at h2; omega))
      have HDL := Aside0.mk hdl
      clear hdl
      go_wp2
      go_quiet (fail)
      go_upto_region 15 with (first | ((with_reducible refine gate_builtin (b := .append) (xs := #[.tmp 78, .tmp 80]) rfl ?_); at_builtin; refine Kd.R_append (Kd.int .i64) (w0 := w) lo rfl (.tmp 78) (.tmp 80) 24 2 (.int .i64 0) 8 rfl Try.underlying24 info2 rfl (by decide) (by omega) dv ds (wrap32 (x - lst first rest)) [.int .i64 (wrap32 (x - lst first rest))] (fun _ => True) (fun _ => False) rfl rfl ?aP (fun _ hk => hk.elim) ?aF ?aO ?aB ?aS ?aL ?_; (case aP => exact rfl); (case aB => exact pw_below_drewN HB.out _); (case aF => exact (fun _ _ => trivial)); (case aO => exact Kd.R_drewN HD.out.R _); (case aS => have h1 := HLS.out; have h2 := HB.out.size; show lo ≤ wr.heap.size; omega); (case aL => have := HDL.out.2.1; omega); intro v1 w1 ho hb hg hat; obtain ⟨A1, c1, rfl⟩ := Kd.R_slice ho; have k2 := keep2_of_grown (show Dl (wr.drewN nq) lo dv ds from HD.out) hg; have hE1 := k2 E 90 _ HE.out (by decide); have e10' : w1.cell? ⟨E, 10, none⟩ = some dv := (blk_cell hE1 10).trans rfl; have z10' := blk_frozen hE1 10; have HW1 := Aside0.mk (And.intro hE1 (And.intro (Dl.of_R ho) (And.intro ((HS.out.drewN nq).keep2 k2) hb))); clear ho hb hg hat k2 hE1))
      obtain ⟨hE1, hD1, hS1, hb1⟩ := HW1.out
      have hE2 := blk_set hE1 10 (.slice A1 (ds.length + 1) c1)
      rw [List.length_append, List.length_singleton] at hD1
      have hD2 := hD1.set_ hE1 (by decide) 10 (.slice A1 (ds.length + 1) c1)
      have hS2 := hS1.setE hE1 (by decide) (by decide) (by decide) (by decide) 10 (.slice A1 (ds.length + 1) c1)
      have hb2 := Below.setCell (p := ⟨E, 10, none⟩) hb1 HLO.out (.slice A1 (ds.length + 1) c1)
      change (w1.setCell ⟨E, 10, none⟩ (.slice A1 (ds.length + 1) c1)).heap[E]? = some (.cells (encL S W (tot + xs.length) first (lst first rest) (.slice A1 (ds.length + 1) c1)) 90 (0, 0)) at hE2
      clear hE1 hD1 hS1 hb1 HW1 e10' z10'
      generalize w1.setCell ⟨E, 10, none⟩ (.slice A1 (ds.length + 1) c1) = w2 at hE2 hD2 hS2 hb2 ⊢
      have hx2 := HR.out w2 hb2 i HC.out
      rw [HXD.out] at hx2
      have y6 : w2.cell? ⟨E, 6, none⟩ = some (.int .i64 (lst first rest)) := (blk_cell hE2 6).trans rfl
      have z6 := blk_frozen hE2 6
      have hen3 := En.push (x := x) hE2 HLO.out hD2 hS2 (by decide) (by decide) (by decide) (by decide) (by decide)
      have hE3 := blk_set hE2 6 (.int .i64 x)
      have hb3 := Below.setCell (p := ⟨E, 6, none⟩) hb2 HLO.out (.int .i64 x)
      change (w2.setCell ⟨E, 6, none⟩ (.int .i64 x)).heap[E]? = some (.cells (encL S W (tot + xs.length) first x (.slice A1 (ds.length + 1) c1)) 90 (0, 0)) at hE3
      have EN3 := Aside0.mk hen3
      have E3 := Aside0.mk hE3
      have B3 := Aside0.mk hb3
      clear hE2 hD2 hS2 hb2 hen3 hE3 hb3
      go_upto_region 16 with (fail)
      have hE3 := E3.out
      have hen3 := EN3.out
      have hb3 := B3.out
      generalize w2.setCell ⟨E, 6, none⟩ (.int .i64 x) = w3 at hE3 hen3 hb3 ⊢
      clear y6 z6 hx2 E3 EN3 B3
      have y10 : w3.cell? ⟨E, 10, none⟩ = some (.slice A1 (ds.length + 1) c1) := (blk_cell hE3 10).trans rfl
      have y7 : w3.cell? ⟨E, 7, none⟩ = some (.int .u64 128) := (blk_cell hE3 7).trans rfl
      have hw : IntKind.i64.wrap ((i : Int) + 1) = ((i + 1 : Nat) : Int) := by rw [IntKind.wrap_i64]; have h1 := HL.out.1; have h2 := HC.out; omega
      have hpl : (pr ++ (xs.take (i + 1)).drop 0).length ≤ 2000 := by have h1 := HL.out.1; have h3 := HC.out; simp; omega
      have HPL := Aside0.mk hpl
      have EN3 := Aside0.mk hen3
      have B3 := Aside0.mk hb3
      clear hE3 hen3 hb3 hpl
      by_cases c : ds.length = 127
      · have d2 : ((((ds.length + 1 : Nat)) : Int) == 128) = true := beq_iff_eq.mpr (by omega)
        have d3 : decide ((((ds.length + 1 : Nat)) : Int) = 128) = true := decide_eq_true (by omega)
        have hpt := HP.out.full x c
        rw [← HX.out] at hpt
        have HPT := Aside0.mk hpt
        have HFB := Aside0.mk (fun n => fb32_calls (EN3.out.drewN n) (fit_snoc HDL.out.1 (wrap32_fit _)) (by simp; omega) (by simp) (by have := HDL.out.2.2; omega))
        clear hpt c
        go_quiet (fail)
        go_wp2_with (first | (go_at_call 38; with_reducible refine (HFB.out nq).mono ?_; rintro e w4 ⟨rfl, n4, b4⟩; have EN4 := Aside0.mk n4; have B4 := Aside0.mk ((pw_below_drewN B3.out nq).trans b4); clear n4 b4))
        go_roundg k1
        case measure => omega
        case rel => exact ⟨i + 1, [], out ++ block (ds ++ [wrap32 (x - lst first rest)]), by simp, ⟨by have := HK.out; omega⟩, ⟨by have := HC.out; omega⟩, ⟨by rw [HX.out, lst_snoc]; exact EN4.out⟩, HPT, B4⟩
      · have d2 : ((((ds.length + 1 : Nat)) : Int) == 128) = false := beq_eq_false_iff_ne.mpr (by omega)
        have d3 : decide ((((ds.length + 1 : Nat)) : Int) = 128) = false := decide_eq_false (by omega)
        have hpt := HP.out.wait x c
        rw [← HX.out] at hpt
        have HPT := Aside0.mk hpt
        clear hpt c
        go_quiet (fail)
        go_wp2
        go_roundg k1
        case measure => omega
        case rel => exact ⟨i + 1, ds ++ [wrap32 (x - lst first rest)], out, by simp, ⟨by have := HK.out; omega⟩, ⟨by have := HC.out; omega⟩, ⟨by rw [HX.out, lst_snoc]; exact EN3.out.drewN _⟩, HPT, ⟨pw_below_drewN B3.out _⟩⟩
    · have d1 : decide ((i : Int) < (xs.length : Int)) = false := decide_eq_false (by omega)
      have hi : i = xs.length := by have := HI.out; omega
      subst hi
      have htk : pr ++ (xs.take xs.length).drop 0 = pr ++ xs := by simp
      rw [htk] at HEN HP
      clear c htk
      go_wp2
      go_end0
      exact ⟨rfl, ds, out, HEN.out, HP.out, HB.out⟩
end Go.Proofs.Ytdekingogcmboaa.Q

/- The first numbers of 32 bits put. -/
namespace Go.Proofs.Ytdekingogcmboaa.Q
open Go.RowKit Go.Proofs.YtdekingogcmboaaW.PrintWords Go.Proofs.YtdekingogcmboaaW.PrintLast Go.Proofs.YtdekingogcmboaaW.PrintMore
set_option linter.unusedVariables false
set_option linter.unusedSimpArgs false
set_option maxHeartbeats 8000000 in
set_option maxRecDepth 100000 in
theorem put32_first {w : World} {lo E S c : Nat} (ad : Addr) (xs : List Int) (hE : w.heap[E]? = some (.cells (enc0 S) 90 (0, 0))) (hlo : lo ≤ E) (hS : Sk w lo S)
    (hr : ∀ W', Below lo w W' → ∀ i, i < xs.length → W'.cell? (ad.add i) = some (.int .i32 (xs.getD i 0))) (hn : 0 < xs.length) (hl0 : xs.length ≤ 2000) (first : Int) (hfirst : first = xs.getD 0 0) (hx32 : ∀ i, i < xs.length → -2147483648 ≤ xs.getD i 0 ∧ xs.getD i 0 ≤ 2147483647) :
    Calls Try.prog 23 #[.pointer (some ⟨E, 0, none⟩), .slice (some ad) xs.length c] w fun e w' => e = .returned (.tuple #[]) ∧ ∃ Wb ds' out', En 90 w' lo E S Wb xs.length first (lst first (xs.drop 1)) ds' out' ∧ Pt wrap32 first (xs.drop 1) ds' out' ∧ Below lo w w' := by
  obtain ⟨pr, hpr⟩ : ∃ pr : List Int, pr = [] := ⟨_, rfl⟩
  have hdrop : [] ++ (xs.take 1).drop 1 = ([] : List Int) := by simp
  have e4 : w.cell? ⟨E, 4, none⟩ = some (.int .u64 0) := (blk_cell hE 4).trans rfl
  have y7 : w.cell? ⟨E, 7, none⟩ = some (.int .u64 0) := (blk_cell hE 7).trans rfl
  have y8 : w.cell? ⟨E, 8, none⟩ = some (.int .u64 0) := (blk_cell hE 8).trans rfl
  have y9 : w.cell? ⟨E, 9, none⟩ = some (.int .u64 0) := (blk_cell hE 9).trans rfl
  have z7 := blk_frozen hE 7
  have z8 := blk_frozen hE 8
  have z9 := blk_frozen hE 9
  have hd0 : ((xs.length : Int) == 0) = false := beq_eq_false_iff_ne.mpr (by omega)
  have hd1 : decide ((xs.length : Int) = 0) = false := decide_eq_false (by omega)
  have hw1 : IntKind.u64.wrap ((xs.length : Nat) : Int) = (xs.length : Int) := by simp [IntKind.wrap, IntKind.bits, IntKind.signed]; omega
  have k1 := blk_set hE 7 (.int .u64 128)
  have k2 := blk_set k1 9 (.int .u64 4)
  have k3 := blk_set k2 8 (.int .u64 32)
  have s1 := hS.setE hE (by decide) (by decide) (by decide) 7 (.int .u64 128)
  have s2 := s1.setE k1 (by decide) (by decide) (by decide) 9 (.int .u64 4)
  have s3 := s2.setE k2 (by decide) (by decide) (by decide) 8 (.int .u64 32)
  have b3 : Below lo w (((w.setCell ⟨E, 7, none⟩ (.int .u64 128)).setCell ⟨E, 9, none⟩ (.int .u64 4)).setCell ⟨E, 8, none⟩ (.int .u64 32)) := Below.setCell (p := ⟨E, 8, none⟩) (Below.setCell (p := ⟨E, 9, none⟩) (Below.setCell (p := ⟨E, 7, none⟩) (Below.refl _ _) hlo _) hlo _) hlo _
  have X3 := Aside0.mk (And.intro k3 (And.intro s3 b3))
  have HR := Aside0.mk hr
  have HL := Aside0.mk (show pr.length + xs.length ≤ 2000 ∧ 0 ≤ 2000 by rw [hpr]; simp; omega)
  have HLO := Aside0.mk hlo
  have HLS := Aside0.mk (show lo ≤ E ∧ E < w.heap.size from ⟨hlo, blk_lt hE⟩)
  have HX32 := Aside0.mk hx32
  have HFI := Aside0.mk hfirst
  clear hx32 hfirst hE hlo hS k1 k2 k3 s1 s2 s3 b3 hr hl0
  go_enter Try.func23, Try.ntmps23
  go_upto_region 6 with (fail)
  obtain ⟨k3, s3, b3⟩ := X3.out
  generalize ((w.setCell ⟨E, 7, none⟩ (.int .u64 128)).setCell ⟨E, 9, none⟩ (.int .u64 4)).setCell ⟨E, 8, none⟩ (.int .u64 32) = w1 at k3 s3 b3 ⊢
  clear X3 e4 y7 y8 y9 z7 z8 z9
  have hx0 := HR.out w1 b3 0 hn
  rw [← HFI.out] at hx0
  have hx00 : w1.cell? ad = some (.int .i32 first) := by simpa [Addr.add] using hx0
  have hxb := HX32.out 0 hn
  rw [← HFI.out] at hxb
  have v1 : IntKind.i64.wrap first = first := by rw [IntKind.wrap_i64]; omega
  have v2 : wrap64 first = first := by unfold wrap64; omega
  clear hxb
  have y5 : w1.cell? ⟨E, 5, none⟩ = some (.int .i64 0) := (blk_cell k3 5).trans rfl
  have y6 : w1.cell? ⟨E, 6, none⟩ = some (.int .i64 0) := (blk_cell k3 6).trans rfl
  have z5 := blk_frozen k3 5
  have z6 := blk_frozen k3 6
  have k4 := blk_set k3 5 (.int .i64 first)
  have k5 := blk_set k4 6 (.int .i64 first)
  have s4 := s3.setE k3 (by decide) (by decide) (by decide) 5 (.int .i64 first)
  have s5 := s4.setE k4 (by decide) (by decide) (by decide) 6 (.int .i64 first)
  have b5 := Below.setCell (p := ⟨E, 6, none⟩) (Below.setCell (p := ⟨E, 5, none⟩) b3 HLO.out (.int .i64 first)) HLO.out (.int .i64 first)
  have X5 := Aside0.mk (And.intro k5 (And.intro s5 b5))
  clear k3 s3 b3 k4 k5 s4 s5 b5
  go_upto_region 9 with (fail)
  obtain ⟨k5, s5, b5⟩ := X5.out
  generalize (w1.setCell ⟨E, 5, none⟩ (.int .i64 first)).setCell ⟨E, 6, none⟩ (.int .i64 first) = w2 at k5 s5 b5 ⊢
  clear X5 y5 y6 z5 z6 hx0 hx00 v1 v2
  have y1 : w2.cell? ⟨E, 1, none⟩ = some (.pointer (some ⟨S, 0, none⟩)) := (blk_cell k5 1).trans rfl
  have hsm := s5.sm
  have k6 := blk_alloc k5 (.cells (bwL (.iface 68 (.pointer (some ⟨S, 0, none⟩))) 0 0 0 (List.replicate 18 0)).toArray 95)
  have b6 : Below lo w (w2.alloc (.cells (bwL (.iface 68 (.pointer (some ⟨S, 0, none⟩))) 0 0 0 (List.replicate 18 0)).toArray 95)) := b5.trans ((below_alloc (Below.refl _ _) _).mono (by have := blk_lt k5; have := HLO.out; omega))
  have HNB := Aside0.mk (newbw_calls S w2)
  obtain ⟨Wb, hWb⟩ : ∃ Wb, Wb = w2.heap.size := ⟨_, rfl⟩
  rw [← hWb] at hsm HNB
  generalize w2.alloc (.cells (bwL (.iface 68 (.pointer (some ⟨S, 0, none⟩))) 0 0 0 (List.replicate 18 0)).toArray 95) = w3 at hsm k6 b6 HNB
  have y3 : w3.cell? ⟨E, 3, none⟩ = some (.pointer none) := (blk_cell k6 3).trans rfl
  have z3 := blk_frozen k6 3
  have k7 := blk_set k6 3 (.pointer (some ⟨Wb, 0, none⟩))
  have s7 := hsm.setE k6 (by decide) (by decide) (by decide) (by decide) 3 (.pointer (some ⟨Wb, 0, none⟩))
  have b7 := Below.setCell (p := ⟨E, 3, none⟩) b6 HLO.out (.pointer (some ⟨Wb, 0, none⟩))
  have X7 := Aside0.mk (And.intro k7 (And.intro s7 b7))
  clear k5 s5 b5 hsm k6 b6 k7 s7 b7 hWb
  go_upto_region 10 with (first | (go_at_call 28; with_reducible refine HNB.out.mono ?_; rintro e w4 ⟨rfl, hw4⟩; subst w4))
  obtain ⟨k7, s7, b7⟩ := X7.out
  change (w3.setCell ⟨E, 3, none⟩ (.pointer (some ⟨Wb, 0, none⟩))).heap[E]? = some (.cells (encL S Wb 0 first first (.slice none 0 0)) 90 (0, 0)) at k7
  generalize w3.setCell ⟨E, 3, none⟩ (.pointer (some ⟨Wb, 0, none⟩)) = w4 at k7 s7 b7 ⊢
  clear X7 y1 y3 z3 HNB
  have e4 : w4.cell? ⟨E, 4, none⟩ = some (.int .u64 0) := (blk_cell k7 4).trans rfl
  have f4 := blk_frozen k7 4
  have k8 := blk_set k7 4 (.int .u64 (xs.length : Int))
  change (w4.setCell ⟨E, 4, none⟩ (.int .u64 (xs.length : Int))).heap[E]? = some (.cells (encL S Wb xs.length first first (.slice none 0 0)) 90 (0, 0)) at k8
  have s8 := s7.setE k7 (by decide) (by decide) (by decide) (by decide) 4 (.int .u64 (xs.length : Int))
  have b8 := Below.setCell (p := ⟨E, 4, none⟩) b7 HLO.out (.int .u64 (xs.length : Int))
  have HEN := Aside0.mk (show En 90 (w4.setCell ⟨E, 4, none⟩ (.int .u64 (xs.length : Int))) lo E S Wb xs.length first (lst first []) [] [] from ⟨.slice none 0 0, k8, HLO.out, ⟨rfl, .inl ⟨rfl, rfl⟩⟩, s8⟩)
  have HB2 := Aside0.mk b8
  clear k7 s7 b7 k8 s8 b8
  go_wp2
  generalize w4.setCell ⟨E, 4, none⟩ (.int .u64 (xs.length : Int)) = w5 at HEN HB2 ⊢
  clear e4 f4
  go_loopg [4] (xs.length + 1) (fun kq v4 w' => ∃ (i : Nat) (ds out : List Int), v4 = .int .i64 (i : Int) ∧ Aside0 (i + kq = xs.length + 2) ∧ Aside0 (1 ≤ i ∧ i ≤ xs.length) ∧ Aside0 (En 90 w' lo E S Wb xs.length first (lst first (pr ++ (xs.take i).drop 1)) ds out) ∧ Aside0 (Pt wrap32 first (pr ++ (xs.take i).drop 1) ds out) ∧ Aside0 (Below lo w w'))
  case atStart => exact ⟨1, [], [], rfl, ⟨by omega⟩, ⟨by omega⟩, ⟨by rw [hpr, hdrop]; exact HEN.out⟩, ⟨by rw [hpr, hdrop]; exact Pt.nil _ _⟩, HB2⟩
  case round =>
    obtain ⟨i, ds, out, rfl, HK, HI, HEN, HP, HB⟩ := hrel
    obtain ⟨k1, rfl⟩ : ∃ k1, gk = k1 + 1 := ⟨gk - 1, by have := HK.out; have := HI.out; omega⟩
    by_cases c : i < xs.length
    · have d1 : decide ((i : Int) < (xs.length : Int)) = true := decide_eq_true (by omega)
      have q1 : (0 : Int) ≤ (i : Int) := by omega
      have q2 : (i : Int) < (xs.length : Int) := by omega
      have hx := HR.out wr HB.out i c
      obtain ⟨dv, hE, hlo, hD, hS⟩ := HEN.out
      have e6 : wr.cell? ⟨E, 6, none⟩ = some (.int .i64 (lst first (pr ++ (xs.take i).drop 1))) := (blk_cell hE 6).trans rfl
      have e10 : wr.cell? ⟨E, 10, none⟩ = some dv := (blk_cell hE 10).trans rfl
      have hrs := rest_snoc pr xs 1 i HI.out.1 c
      generalize hxd : xs.getD i 0 = x at hx hrs
      have hxb := HX32.out i c
      rw [hxd] at hxb
      have v1 : IntKind.i64.wrap x = x := by rw [IntKind.wrap_i64]; omega
      have v2 : wrap64 x = x := by unfold wrap64; omega
      have HV := Aside0.mk (sub32 x)
      have HXD := Aside0.mk hxd
      clear hxd hxb
      generalize pr ++ (xs.take i).drop 1 = rest at HP e6 hE hrs
      have u1 := (HV.out (lst first rest)).1
      have u2 := (HV.out (lst first rest)).2.1
      have u3 := (HV.out (lst first rest)).2.2.1
      have u4 := (HV.out (lst first rest)).2.2.2.1
      have u5 := (HV.out (lst first rest)).2.2.2.2.1
      have u6 := (HV.out (lst first rest)).2.2.2.2.2
      have HX := Aside0.mk hrs
      have HE := Aside0.mk hE
      have HD := Aside0.mk hD
      have HS := Aside0.mk hS
      have HC := Aside0.mk c
      clear hrs hE hlo hD hS c
      have hdl := (HP.out.facts wrap32_fit (by have h1 := HL.out.1; have h2 := congrArg List.length HX.out; have h3 := HC.out; simp at h2; omega))
      have HDL := Aside0.mk hdl
      clear hdl
      go_wp2
      go_quiet (fail)
      go_upto_region 15 with (first | ((with_reducible refine gate_builtin (b := .append) (xs := #[.tmp 78, .tmp 80]) rfl ?_); at_builtin; refine Kd.R_append (Kd.int .i64) (w0 := w) lo rfl (.tmp 78) (.tmp 80) 24 2 (.int .i64 0) 8 rfl Try.underlying24 info2 rfl (by decide) (by omega) dv ds (wrap32 (x - lst first rest)) [.int .i64 (wrap32 (x - lst first rest))] (fun _ => True) (fun _ => False) rfl rfl ?aP (fun _ hk => hk.elim) ?aF ?aO ?aB ?aS ?aL ?_; (case aP => exact rfl); (case aB => exact pw_below_drewN HB.out _); (case aF => exact (fun _ _ => trivial)); (case aO => exact Kd.R_drewN HD.out.R _); (case aS => have h1 := HLS.out; have h2 := HB.out.size; show lo ≤ wr.heap.size; omega); (case aL => have := HDL.out.2.1; omega); intro v1 w1 ho hb hg hat; obtain ⟨A1, c1, rfl⟩ := Kd.R_slice ho; have k2 := keep2_of_grown (show Dl (wr.drewN nq) lo dv ds from HD.out) hg; have hE1 := k2 E 90 _ HE.out (by decide); have e10' : w1.cell? ⟨E, 10, none⟩ = some dv := (blk_cell hE1 10).trans rfl; have z10' := blk_frozen hE1 10; have HW1 := Aside0.mk (And.intro hE1 (And.intro (Dl.of_R ho) (And.intro ((HS.out.drewN nq).keep2 k2) hb))); clear ho hb hg hat k2 hE1))
      obtain ⟨hE1, hD1, hS1, hb1⟩ := HW1.out
      have hE2 := blk_set hE1 10 (.slice A1 (ds.length + 1) c1)
      rw [List.length_append, List.length_singleton] at hD1
      have hD2 := hD1.set_ hE1 (by decide) 10 (.slice A1 (ds.length + 1) c1)
      have hS2 := hS1.setE hE1 (by decide) (by decide) (by decide) (by decide) 10 (.slice A1 (ds.length + 1) c1)
      have hb2 := Below.setCell (p := ⟨E, 10, none⟩) hb1 HLO.out (.slice A1 (ds.length + 1) c1)
      change (w1.setCell ⟨E, 10, none⟩ (.slice A1 (ds.length + 1) c1)).heap[E]? = some (.cells (encL S Wb xs.length first (lst first rest) (.slice A1 (ds.length + 1) c1)) 90 (0, 0)) at hE2
      clear hE1 hD1 hS1 hb1 HW1 e10' z10'
      generalize w1.setCell ⟨E, 10, none⟩ (.slice A1 (ds.length + 1) c1) = w2 at hE2 hD2 hS2 hb2 ⊢
      have hx2 := HR.out w2 hb2 i HC.out
      rw [HXD.out] at hx2
      have y6 : w2.cell? ⟨E, 6, none⟩ = some (.int .i64 (lst first rest)) := (blk_cell hE2 6).trans rfl
      have z6 := blk_frozen hE2 6
      have hen3 := En.push (x := x) hE2 HLO.out hD2 hS2 (by decide) (by decide) (by decide) (by decide) (by decide)
      have hE3 := blk_set hE2 6 (.int .i64 x)
      have hb3 := Below.setCell (p := ⟨E, 6, none⟩) hb2 HLO.out (.int .i64 x)
      change (w2.setCell ⟨E, 6, none⟩ (.int .i64 x)).heap[E]? = some (.cells (encL S Wb xs.length first x (.slice A1 (ds.length + 1) c1)) 90 (0, 0)) at hE3
      have EN3 := Aside0.mk hen3
      have E3 := Aside0.mk hE3
      have B3 := Aside0.mk hb3
      clear hE2 hD2 hS2 hb2 hen3 hE3 hb3
      go_upto_region 16 with (fail)
      have hE3 := E3.out
      have hen3 := EN3.out
      have hb3 := B3.out
      generalize w2.setCell ⟨E, 6, none⟩ (.int .i64 x) = w3 at hE3 hen3 hb3 ⊢
      clear y6 z6 hx2 E3 EN3 B3
      have y10 : w3.cell? ⟨E, 10, none⟩ = some (.slice A1 (ds.length + 1) c1) := (blk_cell hE3 10).trans rfl
      have y7 : w3.cell? ⟨E, 7, none⟩ = some (.int .u64 128) := (blk_cell hE3 7).trans rfl
      have hw : IntKind.i64.wrap ((i : Int) + 1) = ((i + 1 : Nat) : Int) := by rw [IntKind.wrap_i64]; have h1 := HL.out.1; have h2 := HC.out; omega
      have hpl : (pr ++ (xs.take (i + 1)).drop 1).length ≤ 2000 := by have h1 := HL.out.1; have h3 := HC.out; simp; omega
      have HPL := Aside0.mk hpl
      have EN3 := Aside0.mk hen3
      have B3 := Aside0.mk hb3
      clear hE3 hen3 hb3 hpl
      by_cases c : ds.length = 127
      · have d2 : ((((ds.length + 1 : Nat)) : Int) == 128) = true := beq_iff_eq.mpr (by omega)
        have d3 : decide ((((ds.length + 1 : Nat)) : Int) = 128) = true := decide_eq_true (by omega)
        have hpt := HP.out.full x c
        rw [← HX.out] at hpt
        have HPT := Aside0.mk hpt
        have HFB := Aside0.mk (fun n => fb32_calls (EN3.out.drewN n) (fit_snoc HDL.out.1 (wrap32_fit _)) (by simp; omega) (by simp) (by have := HDL.out.2.2; omega))
        clear hpt c
        go_quiet (fail)
        go_wp2_with (first | (go_at_call 38; with_reducible refine (HFB.out nq).mono ?_; rintro e w4 ⟨rfl, n4, b4⟩; have EN4 := Aside0.mk n4; have B4 := Aside0.mk ((pw_below_drewN B3.out nq).trans b4); clear n4 b4))
        go_roundg k1
        case measure => omega
        case rel => exact ⟨i + 1, [], out ++ block (ds ++ [wrap32 (x - lst first rest)]), by simp, ⟨by have := HK.out; omega⟩, ⟨by have := HC.out; omega⟩, ⟨by rw [HX.out, lst_snoc]; exact EN4.out⟩, HPT, B4⟩
      · have d2 : ((((ds.length + 1 : Nat)) : Int) == 128) = false := beq_eq_false_iff_ne.mpr (by omega)
        have d3 : decide ((((ds.length + 1 : Nat)) : Int) = 128) = false := decide_eq_false (by omega)
        have hpt := HP.out.wait x c
        rw [← HX.out] at hpt
        have HPT := Aside0.mk hpt
        clear hpt c
        go_quiet (fail)
        go_wp2
        go_roundg k1
        case measure => omega
        case rel => exact ⟨i + 1, ds ++ [wrap32 (x - lst first rest)], out, by simp, ⟨by have := HK.out; omega⟩, ⟨by have := HC.out; omega⟩, ⟨by rw [HX.out, lst_snoc]; exact EN3.out.drewN _⟩, HPT, ⟨pw_below_drewN B3.out _⟩⟩
    · have d1 : decide ((i : Int) < (xs.length : Int)) = false := decide_eq_false (by omega)
      have hi : i = xs.length := by have := HI.out; omega
      subst hi
      have htk : pr ++ (xs.take xs.length).drop 1 = xs.drop 1 := by rw [hpr, List.take_length]; rfl
      rw [htk] at HEN HP
      clear c htk
      go_wp2
      go_end0
      exact ⟨rfl, Wb, ds, out, HEN.out, HP.out, HB.out⟩
end Go.Proofs.Ytdekingogcmboaa.Q
