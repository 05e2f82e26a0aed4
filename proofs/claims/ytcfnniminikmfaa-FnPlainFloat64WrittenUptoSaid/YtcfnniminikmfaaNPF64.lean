/- Float64: putValue, getBytes, writeLE, Put, New. -/
import Derived.Test.YtcfnniminikmfaaFg
import Derived.Test.YtcfnniminikmfaaLF64
namespace Go.Proofs.Ytcfnniminikmfaa.Q
open Go.RowKit Go.Proofs.YtcfnniminikmfaaW.PrintWords Go.Proofs.YtcfnniminikmfaaW.PrintLast Go.Proofs.YtcfnniminikmfaaW.PrintMore
set_option linter.unusedVariables false
set_option linter.unusedSimpArgs false
theorem extb64 (n : Nat) (W : World) : (callFunc 101 #[.float .f64 n]).run Try.prog W = .ok (.value (.int .u64 n)) W := by
  rw [run_callFunc_extern (P := Try.prog) Try.func101 (by kernel_rfl) (by kernel_rfl) (by kernel_rfl) (e := Extern.MathFloatBits.float64bits) (by kernel_rfl)]
  rfl
set_option linter.unusedVariables false
set_option linter.unusedSimpArgs false
set_option maxHeartbeats 4000000 in
set_option maxRecDepth 100000 in
theorem putF64_calls (X n i : Nat) (l : List Int) (v : Nat) (w : World) (h : Row w X l) (hn : l.length = n) (hi : 8 * i + 8 ≤ n) (hm : n ≤ 16777216) (h1 : v < 18446744073709551616) :
    Calls Try.prog 91 #[.slice (some ⟨X, 0, none⟩) n n, .int .i64 (i : Int), .float .f64 v] w fun e w' => e = .returned (.tuple #[]) ∧ Row w' X (l.take (8 * i) ++ le8 (v : Int) ++ l.drop (8 * i + 8)) ∧ Kept w w' (fun k => k = X) ∧ Below X w w' := by
  have hsl := sliceAt_b X (8 * i) n (by omega) hm
  rw [if_neg (by omega), show ((8 * i : Nat) : Int) = 8 * (i : Int) by omega] at hsl
  have HP := Aside0.mk (fun W (hW : Row W X l) => put64_calls X (8 * i) (n - 8 * i) (n - 8 * i) l (v : Int) W hW (by omega) (by omega) (by omega) (by omega))
  have H := Aside0.mk h
  clear h
  have hx : (0 : Int) ≤ 8 * (i : Int) := by omega
  have hx2 : 8 * (i : Int) ≤ 16777216 := by omega
  obtain ⟨y21, hb21⟩ : ∃ z, ∀ W : World, (Instr.typeAssert (.iface 85 (.float .f64 v)) 20 21 true).run Try.prog W = .ok (.tuple #[z, .bool false]) W := ⟨_, fun W => by rfl⟩
  obtain ⟨y2, hb2⟩ : ∃ z, ∀ W : World, (Instr.typeAssert (.iface 85 (.float .f64 v)) 20 2 true).run Try.prog W = .ok (.tuple #[z, .bool false]) W := ⟨_, fun W => by rfl⟩
  obtain ⟨y78, hb78⟩ : ∃ z, ∀ W : World, (Instr.typeAssert (.iface 85 (.float .f64 v)) 20 78 true).run Try.prog W = .ok (.tuple #[z, .bool false]) W := ⟨_, fun W => by rfl⟩
  have ha : ∀ W : World, (Instr.typeAssert (.iface 85 (.float .f64 v)) 20 85 true).run Try.prog W = .ok (.tuple #[.float .f64 v, .bool true]) W := fun W => by kernel_rfl
  have hx100 := extb64 v
  have hwr : IntKind.i64.wrap (8 * (i : Int)) = 8 * (i : Int) := by rw [IntKind.wrap_i64]; omega
  go_enter Try.func91, Try.ntmps91
  go_wp2
  go_still_tail 7, (by kernel_rfl)
  change wpList _ _ _ _ _ w.drew
  go_wp2_with (first | (go_at_call 99; refine (HP.out w.drew H.out).mono ?_; rintro e w1 ⟨rfl, e1, e2, e3⟩; have E := Aside0.mk (And.intro e1 (And.intro e2 e3)); clear e1 e2 e3))
  go_end0
  obtain ⟨e1, e2, e3⟩ := E.out
  exact ⟨rfl, e1, ⟨e2.1, e2.2⟩, (below_drew (Below.refl _ _)).trans e3⟩

set_option maxHeartbeats 1000000 in
set_option maxRecDepth 100000 in
theorem widthF64_calls (w : World) : Calls Try.prog 105 #[] w fun e w' => e = .returned (.int .i64 8) ∧ w' = w := by
  obtain ⟨z21, w21⟩ : ∃ z, ∀ W : World, (Instr.typeAssert (.iface 85 (.float .f64 0)) 20 21 true).run Try.prog W = .ok (.tuple #[z, .bool false]) W := ⟨_, fun W => by rfl⟩
  obtain ⟨z78, w78⟩ : ∃ z, ∀ W : World, (Instr.typeAssert (.iface 85 (.float .f64 0)) 20 78 true).run Try.prog W = .ok (.tuple #[z, .bool false]) W := ⟨_, fun W => by rfl⟩
  obtain ⟨z2, w2⟩ : ∃ z, ∀ W : World, (Instr.typeAssert (.iface 85 (.float .f64 0)) 20 2 true).run Try.prog W = .ok (.tuple #[z, .bool false]) W := ⟨_, fun W => by rfl⟩
  obtain ⟨z85, w85⟩ : ∃ z, ∀ W : World, (Instr.typeAssert (.iface 85 (.float .f64 0)) 20 85 true).run Try.prog W = .ok (.tuple #[z, .bool true]) W := ⟨_, fun W => by rfl⟩
  go_enter Try.func105, Try.ntmps105
  go_wp2
  go_ret
  exact ⟨rfl, rfl⟩
set_option maxHeartbeats 1000000 in
set_option maxRecDepth 100000 in
theorem reqF64_calls (n : Nat) (w : World) (hn : n ≤ 524288) : Calls Try.prog 90 #[.int .i64 (n : Int)] w fun e w' => e = .returned (.int .i64 (8 * (n : Int))) ∧ w' = w := by
  have HW := Aside0.mk (widthF64_calls w)
  have h0 : (0 : Int) ≤ (n : Int) * 8 := by omega
  have h1 : (n : Int) * 8 ≤ 8388608 := by omega
  go_enter Try.func90, Try.ntmps90
  go_wp2_with (first | (go_at_call 105; refine HW.out.mono ?_; rintro e w1 ⟨rfl, hw1⟩; subst w1))
  go_ret
  refine ⟨congrArg Ending.returned (congrArg (Value.int .i64) ?_), rfl⟩
  omega

theorem at_F64 {w : World} {A : Option Addr} {n : Nat} {xs : List Nat} (h : kF64.C w A n xs) (i : Nat) (h1 : i < n) : ∃ ad, A = some ad ∧ w.cell? (ad.add i) = some (.float .f64 (xs.getD i 0)) := by
  obtain ⟨ad, c, e, _, hK, hc⟩ := Kd.C_get h (0 : Nat) (i : Int) (by omega) (by omega)
  have h0 := hc 0 (.float .f64 (xs.getD (i : Int).toNat 0)) (by have : c = [Value.float .f64 (xs.getD (i : Int).toNat 0)] := hK; rw [this]; rfl)
  refine ⟨ad, e, ?_⟩
  have e1 : (i : Int).toNat * 1 + 0 = i := by omega
  have h0' : w.cell? (ad.add ((i : Int).toNat * 1 + 0)) = some (.float .f64 (xs.getD (i : Int).toNat 0)) := h0
  rw [e1, Int.toNat_natCast] at h0'
  exact h0'
set_option maxHeartbeats 4000000 in
set_option maxRecDepth 100000 in
theorem getF64_calls (A : Option Addr) (c : Nat) (xs : List Nat) (w : World) (hr : Kd.C (kF64) w A xs.length xs) (hn : xs.length ≤ 524288) (hx : ∀ x ∈ xs, x < 18446744073709551616) :
    Calls Try.prog 74 #[.slice A xs.length c] w fun e w' => e = .returned (.slice (some ⟨w.heap.size, 0, none⟩) (8 * xs.length) (8 * xs.length)) ∧ Row w' w.heap.size ((xs.map fun n : Nat => (n : Int)).flatMap le8) ∧ Below w.heap.size w w' := by
  have HQ := Aside0.mk (reqF64_calls xs.length w hn)
  have HR := Aside0.mk hr
  have HX := Aside0.mk hx
  have hmk := make_bytes (8 * xs.length) (by omega)
  rw [show ((8 * xs.length : Nat) : Int) = 8 * (xs.length : Int) by omega] at hmk
  have HP := Aside0.mk (fun i l v W h hn hi h1 => putF64_calls w.heap.size (8 * xs.length) i l v W h hn hi (by omega) h1)
  have hb0 : Below w.heap.size w (w.alloc (zeros (8 * xs.length))) := below_alloc (Below.refl _ _) _
  have hz := row_zeros w (8 * xs.length)
  have HB := Aside0.mk hb0
  have HZ := Aside0.mk (show Row (w.alloc (zeros (8 * xs.length))) w.heap.size (fillL le8 8 (xs.map fun n : Nat => (n : Int)) 0) by simpa [fillL] using hz)
  clear hr hx hb0 hz
  go_enter Try.func74, Try.ntmps74
  go_wp2_with (first | (go_at_call 90; refine HQ.out.mono ?_; rintro e w1 ⟨rfl, hw1⟩; subst w1))
  generalize w.alloc (zeros (8 * xs.length)) = w1 at HB HZ ⊢
  clear hmk HQ
  go_loopg [12] (xs.length + 1) (fun kq v12 w' => ∃ i : Nat, v12 = .int .i64 (i : Int) ∧ Aside0 (i + kq = xs.length + 1) ∧ Aside0 (i ≤ xs.length) ∧ Aside0 (Row w' w.heap.size (fillL le8 8 (xs.map fun n : Nat => (n : Int)) i)) ∧ Aside0 (Below w.heap.size w w'))
  case atStart => exact ⟨0, rfl, ⟨by omega⟩, ⟨by omega⟩, HZ, HB⟩
  case round =>
    obtain ⟨i, rfl, HK, HI, HL, HBB⟩ := hrel
    cases gk with
    | zero => exact absurd HK.out (by have := HI.out; omega)
    | succ k1 =>
      by_cases c2 : (i : Int) < (xs.length : Int)
      · have c2b : decide ((i : Int) < (xs.length : Int)) = true := decide_eq_true c2
        obtain ⟨ad, rfl, hc⟩ := at_F64 (Kd.C_below HR.out HBB.out) i (by omega)
        have hm : xs.getD i 0 ∈ xs := by
          rw [List.getD_eq_getElem?_getD, List.getElem?_eq_getElem (by omega)]
          exact List.getElem_mem _
        have hb := HX.out _ hm
        have hml : (xs.map fun n : Nat => (n : Int)).length = xs.length := List.length_map _
        have hl := fillL_len le8 8 (fun _ => rfl) (xs.map fun n : Nat => (n : Int)) i (by omega)
        rw [hml] at hl
        generalize hvv : xs.getD i 0 = vv at hc hb hm
        have HPP := Aside0.mk (HP.out i _ vv wr HL.out hl (by omega) hb)
        have hs := fillL_step le8 8 (fun _ => rfl) (xs.map fun n : Nat => (n : Int)) i (by omega)
        have hs2 : (xs.map fun n : Nat => (n : Int)).getD i 0 = (vv : Int) := by
          rw [← hvv, List.getD_eq_getElem?_getD, List.getD_eq_getElem?_getD, List.getElem?_map]
          rw [List.getElem?_eq_getElem (show i < xs.length by omega)]; rfl
        rw [hs2] at hs
        have HS := Aside0.mk hs
        have g0 : (0 : Int) ≤ (i : Int) := by omega
        clear hs hs2 hl hb hm HP HX HZ HB hml hvv
        go_wp2_with (first | (go_at_call 91; refine HPP.out.mono ?_; rintro e w2 ⟨rfl, e1, e2, e3⟩; have E1 := Aside0.mk e1; have E3 := Aside0.mk e3; clear e1 e2 e3))
        go_roundg k1
        case measure => have := HK.out; omega
        case rel => exact ⟨i + 1, (by simp), ⟨by have := HK.out; omega⟩, ⟨by omega⟩, ⟨by have := E1.out; rwa [HS.out] at this⟩, ⟨HBB.out.trans E3.out⟩⟩
      · have c2b : decide ((i : Int) < (xs.length : Int)) = false := decide_eq_false c2
        go_wp2
        go_ret
        have hi : i = xs.length := by have := HI.out; omega
        refine ⟨rfl, ?_, HBB.out⟩
        have := HL.out
        rw [hi] at this
        unfold fillL at this
        rw [List.take_of_length_le (by rw [List.length_map]; exact Nat.le_refl _), List.length_map, Nat.sub_self, Nat.mul_zero, List.replicate_zero, List.append_nil] at this
        exact this

set_option maxHeartbeats 2000000 in
set_option maxRecDepth 100000 in
theorem wleF64_calls (E S B D : Nat) (l : List Int) (pos : Nat) (q : Int) (G : Nat) (A : Option Addr) (c : Nat) (xs : List Nat) (w : World) (hE : EncAt w E S) (h : Snk w S B D l pos q G) (hr : Kd.C (kF64) w A xs.length xs) (hx : ∀ x ∈ xs, x < 18446744073709551616) (hb : pos + 8 * xs.length ≤ 4194304) :
    Calls Try.prog 57 #[.pointer (some ⟨E, 0, none⟩), .slice A xs.length c] w fun e w' => e = .returned (.tuple #[]) ∧ Wrote w w' S B D l pos q G ((xs.map fun n : Nat => (n : Int)).flatMap le8) := by
  have HG := Aside0.mk (getF64_calls A c xs w hr (by omega) hx)
  have hlen : ((xs.map fun n : Nat => (n : Int)).flatMap le8).length = 8 * xs.length := (flat_len le8 8 (fun _ => rfl) (xs.map fun n : Nat => (n : Int))).trans (by rw [List.length_map])
  have HA := Aside0.mk (fun w1 (hb1 : Below w.heap.size w w1) (hX : Row w1 w.heap.size ((xs.map fun n : Nat => (n : Int)).flatMap le8)) => append_calls E S B D l pos q G (some ⟨w.heap.size, 0, none⟩) (8 * xs.length) ((xs.map fun n : Nat => (n : Int)).flatMap le8) w1 (hE.below hb1) (h.below hb1) (by rw [hlen]; exact hb) (lies_row hX (Nat.ne_of_gt (blk_lt h.s)) (Nat.ne_of_gt (blk_lt h.b.1)) (Nat.ne_of_gt (blk_lt h.b.2))))
  rw [hlen] at HA
  have H := Aside0.mk h
  clear h hE hr hx
  go_enter Try.func57, Try.ntmps57
  go_wp2_with (first | (go_at_call 74; refine HG.out.mono ?_; rintro e w1 ⟨rfl, e1, e2⟩; have HA1 := Aside0.mk (HA.out w1 e2 e1); have E2 := Aside0.mk e2; clear e1 e2) | (go_at_call 67; refine HA1.out.mono ?_; rintro e w2 ⟨rfl, e1⟩; have E1 := Aside0.mk e1; clear e1))
  go_end0
  exact ⟨rfl, wrote_after H.out E2.out E1.out⟩
set_option maxHeartbeats 2000000 in
set_option maxRecDepth 100000 in
theorem putEF64_calls (E S B D : Nat) (l : List Int) (pos : Nat) (q : Int) (G : Nat) (A : Option Addr) (c : Nat) (xs : List Nat) (w : World) (hE : EncAt w E S) (h : Snk w S B D l pos q G) (hr : Kd.C (kF64) w A xs.length xs) (hx : ∀ x ∈ xs, x < 18446744073709551616) (hb : pos + 8 * xs.length ≤ 4194304) :
    Calls Try.prog 36 #[.pointer (some ⟨E, 0, none⟩), .slice A xs.length c] w fun e w' => e = .returned (.tuple #[]) ∧ Wrote w w' S B D l pos q G ((xs.map fun n : Nat => (n : Int)).flatMap le8) := by
  have HW := Aside0.mk (wleF64_calls E S B D l pos q G A c xs w hE h hr hx hb)
  clear hE h hr hx
  go_enter Try.func36, Try.ntmps36
  go_wp2_with (first | (go_at_call 57; refine HW.out.mono ?_; rintro e w1 ⟨rfl, e1⟩; have E1 := Aside0.mk e1; clear e1))
  go_end0
  exact ⟨rfl, E1.out⟩
set_option maxHeartbeats 2000000 in
set_option maxRecDepth 100000 in
theorem newF64_calls (w : World) : Calls Try.prog 35 #[.iface 48 (.agg #[])] w fun e w' => ∃ E S B D l G, e = .returned (.pointer (some ⟨E, 0, none⟩)) ∧ Made w w' E S B D l G := by
  have HB := Aside0.mk (base_calls w)
  go_enter Try.func35, Try.ntmps35
  go_wp2_with (first | (go_at_call 47; refine HB.out.mono ?_; rintro e w1 ⟨rfl, B, D, l, G, g1, g2, g3, g4⟩; have G1 := Aside0.mk g1; have G2 := Aside0.mk g2; have G3 := Aside0.mk g3; have G4 := Aside0.mk g4; clear g1 g2 g3 g4))
  go_ret
  exact ⟨_, _, B, D, l, G, rfl, made_of G1.out G2.out G3.out G4.out rfl⟩

end Go.Proofs.Ytcfnniminikmfaa.Q
