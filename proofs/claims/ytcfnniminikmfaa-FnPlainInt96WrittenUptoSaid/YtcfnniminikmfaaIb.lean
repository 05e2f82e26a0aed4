/- Numbers of 96 bits: twelve bytes each, in one row. -/
import Derived.Test.YtcfnniminikmfaaIa
import Derived.Test.YtcfnniminikmfaaWArr
namespace Go.Proofs.Ytcfnniminikmfaa.Q
open Go.RowKit Go.Proofs.YtcfnniminikmfaaW.PrintWords Go.Proofs.YtcfnniminikmfaaW.PrintLast Go.Proofs.YtcfnniminikmfaaW.PrintMore
set_option linter.unusedVariables false
set_option linter.unusedSimpArgs false
def k96 : Kd (List Int) := Kd.arr 12 (Kd.int .u8) (by decide)
theorem list12 (l : List Int) (h : l.length = 12) : ∃ b0 b1 b2 b3 b4 b5 b6 b7 b8 b9 b10 b11 : Int, l = [b0, b1, b2, b3, b4, b5, b6, b7, b8, b9, b10, b11] := by
  match l, h with
  | [b0, b1, b2, b3, b4, b5, b6, b7, b8, b9, b10, b11], _ => exact ⟨b0, b1, b2, b3, b4, b5, b6, b7, b8, b9, b10, b11, rfl⟩
theorem at_96 {w : World} {A : Option Addr} {n : Nat} {xs : List (List Int)} (h : Kd.C k96 w A n xs) (i : Int) (h0 : 0 ≤ i) (h1 : i < n) : ∃ ad b0 b1 b2 b3 b4 b5 b6 b7 b8 b9 b10 b11, A = some ad ∧ rdOf [] xs i = [b0, b1, b2, b3, b4, b5, b6, b7, b8, b9, b10, b11] ∧ w.cell? (ad.add (i.toNat * 12)) = some (.int .u8 b0) ∧ w.cell? ⟨(ad.add (i.toNat * 12)).block, (ad.add (i.toNat * 12)).off + 1, none⟩ = some (.int .u8 b1) ∧ w.cell? ⟨(ad.add (i.toNat * 12)).block, (ad.add (i.toNat * 12)).off + 2, none⟩ = some (.int .u8 b2) ∧ w.cell? ⟨(ad.add (i.toNat * 12)).block, (ad.add (i.toNat * 12)).off + 3, none⟩ = some (.int .u8 b3) ∧ w.cell? ⟨(ad.add (i.toNat * 12)).block, (ad.add (i.toNat * 12)).off + 4, none⟩ = some (.int .u8 b4) ∧ w.cell? ⟨(ad.add (i.toNat * 12)).block, (ad.add (i.toNat * 12)).off + 5, none⟩ = some (.int .u8 b5) ∧ w.cell? ⟨(ad.add (i.toNat * 12)).block, (ad.add (i.toNat * 12)).off + 6, none⟩ = some (.int .u8 b6) ∧ w.cell? ⟨(ad.add (i.toNat * 12)).block, (ad.add (i.toNat * 12)).off + 7, none⟩ = some (.int .u8 b7) ∧ w.cell? ⟨(ad.add (i.toNat * 12)).block, (ad.add (i.toNat * 12)).off + 8, none⟩ = some (.int .u8 b8) ∧ w.cell? ⟨(ad.add (i.toNat * 12)).block, (ad.add (i.toNat * 12)).off + 9, none⟩ = some (.int .u8 b9) ∧ w.cell? ⟨(ad.add (i.toNat * 12)).block, (ad.add (i.toNat * 12)).off + 10, none⟩ = some (.int .u8 b10) ∧ w.cell? ⟨(ad.add (i.toNat * 12)).block, (ad.add (i.toNat * 12)).off + 11, none⟩ = some (.int .u8 b11) := by
  obtain ⟨ad, c, e, _, hK, hc0⟩ := Kd.C_get h ([] : List Int) i h0 h1
  have hc : ∀ j u, c[j]? = some u → w.cell? (ad.add (i.toNat * 12 + j)) = some u := hc0
  obtain ⟨hl, hcs⟩ := Kd.arr_cells (enc := Value.int .u8) (h1 := fun _ => rfl) hK
  obtain ⟨b0, b1, b2, b3, b4, b5, b6, b7, b8, b9, b10, b11, hb⟩ := list12 _ hl
  rw [hb] at hcs
  subst hcs
  exact ⟨ad, b0, b1, b2, b3, b4, b5, b6, b7, b8, b9, b10, b11, e, hb, hc 0 _ rfl, by rw [← add_field _ _ 1 (by omega)]; exact hc 1 _ rfl, by rw [← add_field _ _ 2 (by omega)]; exact hc 2 _ rfl, by rw [← add_field _ _ 3 (by omega)]; exact hc 3 _ rfl, by rw [← add_field _ _ 4 (by omega)]; exact hc 4 _ rfl, by rw [← add_field _ _ 5 (by omega)]; exact hc 5 _ rfl, by rw [← add_field _ _ 6 (by omega)]; exact hc 6 _ rfl, by rw [← add_field _ _ 7 (by omega)]; exact hc 7 _ rfl, by rw [← add_field _ _ 8 (by omega)]; exact hc 8 _ rfl, by rw [← add_field _ _ 9 (by omega)]; exact hc 9 _ rfl, by rw [← add_field _ _ 10 (by omega)]; exact hc 10 _ rfl, by rw [← add_field _ _ 11 (by omega)]; exact hc 11 _ rfl⟩
theorem info93 : (Try.prog.info? 93).map (fun i => (i.zero, i.size, i.bytes)) = some (some (.agg #[.int .u8 0, .int .u8 0, .int .u8 0, .int .u8 0, .int .u8 0, .int .u8 0, .int .u8 0, .int .u8 0, .int .u8 0, .int .u8 0, .int .u8 0, .int .u8 0]), 12, 12) := by kernel_rfl
def by96 (x : S29) : List Int := bytesOf x.f2
set_option maxHeartbeats 1000000 in
set_option maxRecDepth 100000 in
theorem listInt96_calls (A0 : Option Addr) (c0 : Nat) (l0 : List S29) (w : World) (hr0 : Kd.C k29 w A0 l0.length l0) (hc0 : l0.length ≤ c0) (hl : l0.length ≤ 500) (hs : ∀ x ∈ l0, x.f2.size = 12) :
    Calls Try.prog 40 #[.slice A0 l0.length c0] w fun e w' => ∃ v, e = .returned v ∧ Kd.R k96 93 w' w.heap.size (fun _ => True) v (l0.map by96) ∧ Below w.heap.size w w' := by
  have HR0 := Aside0.mk hr0
  have HS := Aside0.mk hs
  clear hr0 hs
  go_enter Try.func40, Try.ntmps40
  go_wp2
  go_loopg [2, 7] (l0.length + 1) (fun kq v2 v7 w' => ∃ (i : Nat), v7 = .int .i64 (i : Int) ∧ Aside0 (i + kq = l0.length + 1) ∧ Aside0 (i ≤ l0.length) ∧ Aside0 (Kd.R k96 93 w' w.heap.size (fun _ => True) v2 ((l0.take i).map by96)) ∧ Aside0 (Below w.heap.size w w'))
  case atStart => exact ⟨0, rfl, ⟨by omega⟩, ⟨by omega⟩, ⟨Kd.R_nil _ _ _ _ _⟩, ⟨Below.refl _ _⟩⟩
  case round =>
    obtain ⟨i, rfl, HK, HI, HR, HB⟩ := hrel
    cases gk with
    | zero => exact absurd HK.out (by have := HI.out; omega)
    | succ k1 =>
      by_cases c2 : (i : Int) < (l0.length : Int)
      · have c2b : decide ((i : Int) < (l0.length : Int)) = true := decide_eq_true c2
        have hB := HB.out
        obtain ⟨ad, A3, c3, rfl, x0, x1, x2, x3, hl3, hi3⟩ := at_T29 (Kd.C_below HR0.out hB) (i : Int) (by omega) (by omega)
        rw [Int.toNat_natCast] at x0 x1 x2 x3
        have g0 : (0 : Int) ≤ (i : Int) := by omega
        have hget : l0[i]? = some (rd_T29 l0 (i : Int)) := by
          show _ = some (l0.getD (i : Int).toNat z29)
          rw [Int.toNat_natCast, List.getD_eq_getElem?_getD, List.getElem?_eq_getElem (by omega)]; rfl
        have hsz := HS.out _ (List.mem_of_getElem? hget)
        obtain ⟨b0, b1, b2, b3, b4, b5, b6, b7, b8, b9, b10, b11, hbs⟩ := list12 (bytesOf (rd_T29 l0 (i : Int)).f2) (by rw [bytesOf_length, hsz])
        obtain ⟨W1, hW1⟩ : ∃ W1, W1 = wr.alloc (.cells #[.bool (rd_T29 l0 (i : Int)).f0, .int .u64 (rd_T29 l0 (i : Int)).f1, .string (rd_T29 l0 (i : Int)).f2, .slice A3 (rd_T29 l0 (i : Int)).f3.length c3] 29) := ⟨_, rfl⟩
        have hbw : Below wr.heap.size wr W1 := by rw [hW1]; exact below_alloc (Below.refl _ _) _
        have hI := int96_calls (rd_T29 l0 (i : Int)).f2 b0 b1 b2 b3 b4 b5 b6 b7 b8 b9 b10 b11 hbs W1
        unfold ag12 at hI
        rw [hW1] at hI
        have HI96 := Aside0.mk hI
        have BB1 := Aside0.mk hbw
        have W1E := Aside0.mk hW1
        have e1 : (l0.take (i + 1)).map by96 = (l0.take i).map by96 ++ [[b0, b1, b2, b3, b4, b5, b6, b7, b8, b9, b10, b11]] := by
          rw [List.take_add_one, hget]; simp [by96, hbs]
        have EE := Aside0.mk e1
        have tl : ((l0.take i).map by96).length = i := by rw [List.length_map, List.length_take]; omega
        clear hI hbw hbs hsz hget e1
        go_wp2_with (first | (go_at_call 60; refine HI96.out.mono ?_; rintro e w2 ⟨rfl, hb2⟩; have RR := Aside0.mk (Kd.R_below (Kd.R_below HR.out BB1.out) (by rw [W1E.out]; exact hb2)); have HBB := Aside0.mk ((hB.trans (BB1.out.mono hB.size)).trans ((show Below W1.heap.size W1 w2 from by rw [W1E.out]; exact hb2).mono (Nat.le_trans hB.size BB1.out.size))); clear hb2) | ((with_reducible refine gate_builtin (b := .append) (xs := #[.tmp 11, .tmp 15]) rfl ?_); at_builtin; go_loud (refine Kd.R_append k96 (w0 := w) w.heap.size rfl (.tmp 11) (.tmp 15) 95 93 (.agg #[.int .u8 0, .int .u8 0, .int .u8 0, .int .u8 0, .int .u8 0, .int .u8 0, .int .u8 0, .int .u8 0, .int .u8 0, .int .u8 0, .int .u8 0, .int .u8 0]) 12 rfl Try.underlying95 info93 rfl (by decide) (by omega) u2 ((l0.take i).map by96) [b0, b1, b2, b3, b4, b5, b6, b7, b8, b9, b10, b11] [.int .u8 b0, .int .u8 b1, .int .u8 b2, .int .u8 b3, .int .u8 b4, .int .u8 b5, .int .u8 b6, .int .u8 b7, .int .u8 b8, .int .u8 b9, .int .u8 b10, .int .u8 b11] (fun _ => True) (fun _ => False) rfl (by first | (go_simp; done) | (go_simp; rfl)) ?aP (fun _ hk => hk.elim) (fun _ _ => trivial) RR.out HBB.out HBB.out.size (by rw [tl]; omega) ?_; (case aP => exact Kd.arr_of_cells (enc := Value.int .u8) (h1 := fun _ => rfl) (n := 12) (xs := [b0, b1, b2, b3, b4, b5, b6, b7, b8, b9, b10, b11]) rfl); intro v1 w3 ho hb hg hat; have n0_ := Aside0.mk ho; have n1_ := Aside0.mk hb; clear ho hb hg hat)))
        have hr3 := n0_.out
        rw [← EE.out] at hr3
        go_roundg k1
        case measure => have := HK.out; omega
        case rel => exact ⟨i + 1, (by simp), ⟨by have := HK.out; omega⟩, ⟨by omega⟩, ⟨hr3⟩, n1_⟩
      · have c2b : decide ((i : Int) < (l0.length : Int)) = false := decide_eq_false c2
        go_wp2
        go_ret
        have hi : i = l0.length := by have := HI.out; omega
        subst hi
        have hr := HR.out
        rw [List.take_length] at hr
        exact ⟨_, rfl, hr, HB.out⟩
end Go.Proofs.Ytcfnniminikmfaa.Q
