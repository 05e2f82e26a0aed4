/- Int64: putValue, getBytes, writeLE, Put, New. -/
import Derived.Test.YtcfnniminikmfaaFg
namespace Go.Proofs.Ytcfnniminikmfaa.Q
open Go.RowKit Go.Proofs.YtcfnniminikmfaaW.PrintWords Go.Proofs.YtcfnniminikmfaaW.PrintLast Go.Proofs.YtcfnniminikmfaaW.PrintMore
set_option linter.unusedVariables false
set_option linter.unusedSimpArgs false
set_option maxHeartbeats 4000000 in
set_option maxRecDepth 100000 in
theorem putI64_calls (X n i : Nat) (l : List Int) (v : Int) (w : World) (h : Row w X l) (hn : l.length = n) (hi : 8 * i + 8 ≤ n) (hm : n ≤ 16777216) (h0 : -9223372036854775808 ≤ v) (h1 : v ≤ 9223372036854775807) :
    Calls Try.prog 87 #[.slice (some ⟨X, 0, none⟩) n n, .int .i64 (i : Int), .int .i64 v] w fun e w' => e = .returned (.tuple #[]) ∧ Row w' X (l.take (8 * i) ++ le8 (v % 18446744073709551616) ++ l.drop (8 * i + 8)) ∧ Kept w w' (fun k => k = X) ∧ Below X w w' := by
  have hsl := sliceAt_b X (8 * i) n (by omega) hm
  rw [if_neg (by omega), show ((8 * i : Nat) : Int) = 8 * (i : Int) by omega] at hsl
  have HP := Aside0.mk (fun W (hW : Row W X l) => put64_calls X (8 * i) (n - 8 * i) (n - 8 * i) l (v % 18446744073709551616) W hW (by omega) (by omega) (by omega) (by omega))
  have H := Aside0.mk h
  clear h
  have hx : (0 : Int) ≤ 8 * (i : Int) := by omega
  have hx2 : 8 * (i : Int) ≤ 16777216 := by omega
  have ha0 : ∃ z, ∀ W : World, (Instr.typeAssert (.iface 2 (.int .i64 v)) 20 21 true).run Try.prog W = .ok (.tuple #[z, .bool false]) W := ⟨_, fun W => by rfl⟩
  obtain ⟨z0, ha0⟩ := ha0
  have ha : ∀ W : World, (Instr.typeAssert (.iface 2 (.int .i64 v)) 20 2 true).run Try.prog W = .ok (.tuple #[.int .i64 v, .bool true]) W := fun W => by kernel_rfl
  have hwr : IntKind.i64.wrap (8 * (i : Int)) = 8 * (i : Int) := by rw [IntKind.wrap_i64]; omega
  go_enter Try.func87, Try.ntmps87
  go_wp2
  go_still_tail 7, (by kernel_rfl)
  change wpList _ _ _ _ _ w.drew
  go_wp2_with (first | (go_at_call 99; refine (HP.out w.drew H.out).mono ?_; rintro e w1 ⟨rfl, e1, e2, e3⟩; have E := Aside0.mk (And.intro e1 (And.intro e2 e3)); clear e1 e2 e3))
  go_end0
  obtain ⟨e1, e2, e3⟩ := E.out
  exact ⟨rfl, e1, ⟨e2.1, e2.2⟩, (below_drew (Below.refl _ _)).trans e3⟩

set_option maxHeartbeats 1000000 in
set_option maxRecDepth 100000 in
theorem widthI64_calls (w : World) : Calls Try.prog 103 #[] w fun e w' => e = .returned (.int .i64 8) ∧ w' = w := by
  have h1 : ∃ z, ∀ W : World, (Instr.typeAssert (.iface 2 (.int .i64 0)) 20 21 true).run Try.prog W = .ok (.tuple #[z, .bool false]) W := ⟨_, fun W => by rfl⟩
  have h2 : ∃ z, ∀ W : World, (Instr.typeAssert (.iface 2 (.int .i64 0)) 20 78 true).run Try.prog W = .ok (.tuple #[z, .bool false]) W := ⟨_, fun W => by rfl⟩
  have h3 : ∀ W : World, (Instr.typeAssert (.iface 2 (.int .i64 0)) 20 2 true).run Try.prog W = .ok (.tuple #[.int .i64 0, .bool true]) W := fun W => by kernel_rfl
  have h4 : ∃ z, ∀ W : World, (Instr.typeAssert (.iface 2 (.int .i64 0)) 20 85 true).run Try.prog W = .ok (.tuple #[z, .bool false]) W := ⟨_, fun W => by rfl⟩
  obtain ⟨z1, h1⟩ := h1
  obtain ⟨z2, h2⟩ := h2
  obtain ⟨z4, h4⟩ := h4
  go_enter Try.func103, Try.ntmps103
  go_wp2
  go_ret
  exact ⟨rfl, rfl⟩
set_option maxHeartbeats 1000000 in
set_option maxRecDepth 100000 in
theorem reqI64_calls (n : Nat) (w : World) (hn : n ≤ 524288) : Calls Try.prog 86 #[.int .i64 (n : Int)] w fun e w' => e = .returned (.int .i64 (8 * (n : Int))) ∧ w' = w := by
  have HW := Aside0.mk (widthI64_calls w)
  have h0 : (0 : Int) ≤ (n : Int) * 8 := by omega
  have h1 : (n : Int) * 8 ≤ 8388608 := by omega
  go_enter Try.func86, Try.ntmps86
  go_wp2_with (first | (go_at_call 103; refine HW.out.mono ?_; rintro e w1 ⟨rfl, hw1⟩; subst w1))
  go_ret
  refine ⟨congrArg Ending.returned (congrArg (Value.int .i64) ?_), rfl⟩
  omega

set_option maxHeartbeats 4000000 in
set_option maxRecDepth 100000 in
theorem getI64_calls (A : Option Addr) (c : Nat) (xs : List Int) (w : World) (hr : Kd.C (Kd.int .i64) w A xs.length xs) (hn : xs.length ≤ 524288) (hx : ∀ x ∈ xs, -9223372036854775808 ≤ x ∧ x ≤ 9223372036854775807) :
    Calls Try.prog 72 #[.slice A xs.length c] w fun e w' => e = .returned (.slice (some ⟨w.heap.size, 0, none⟩) (8 * xs.length) (8 * xs.length)) ∧ Row w' w.heap.size (xs.flatMap fun x => le8 (x % 18446744073709551616)) ∧ Below w.heap.size w w' := by
  have HQ := Aside0.mk (reqI64_calls xs.length w hn)
  have HR := Aside0.mk hr
  have HX := Aside0.mk hx
  have hmk := make_bytes (8 * xs.length) (by omega)
  rw [show ((8 * xs.length : Nat) : Int) = 8 * (xs.length : Int) by omega] at hmk
  have HP := Aside0.mk (fun i l v W h hn hi h0 h1 => putI64_calls w.heap.size (8 * xs.length) i l v W h hn hi (by omega) h0 h1)
  have hb0 : Below w.heap.size w (w.alloc (zeros (8 * xs.length))) := below_alloc (Below.refl _ _) _
  have hz := row_zeros w (8 * xs.length)
  have HB := Aside0.mk hb0
  have HZ := Aside0.mk (show Row (w.alloc (zeros (8 * xs.length))) w.heap.size (fillL (fun x => le8 (x % 18446744073709551616)) 8 xs 0) by simpa [fillL] using hz)
  clear hr hx hb0 hz
  go_enter Try.func72, Try.ntmps72
  go_wp2_with (first | (go_at_call 86; refine HQ.out.mono ?_; rintro e w1 ⟨rfl, hw1⟩; subst w1))
  generalize w.alloc (zeros (8 * xs.length)) = w1 at HB HZ ⊢
  clear hmk HQ
  go_loopg [12] (xs.length + 1) (fun kq v12 w' => ∃ i : Nat, v12 = .int .i64 (i : Int) ∧ Aside0 (i + kq = xs.length + 1) ∧ Aside0 (i ≤ xs.length) ∧ Aside0 (Row w' w.heap.size (fillL (fun x => le8 (x % 18446744073709551616)) 8 xs i)) ∧ Aside0 (Below w.heap.size w w'))
  case atStart => exact ⟨0, rfl, ⟨by omega⟩, ⟨by omega⟩, HZ, HB⟩
  case round =>
    obtain ⟨i, rfl, HK, HI, HL, HBB⟩ := hrel
    cases gk with
    | zero => exact absurd HK.out (by have := HI.out; omega)
    | succ k1 =>
      by_cases c2 : (i : Int) < (xs.length : Int)
      · have c2b : decide ((i : Int) < (xs.length : Int)) = true := decide_eq_true c2
        obtain ⟨ad, rfl, hc⟩ := Kd.at_int (Kd.C_below HR.out HBB.out) (i : Int) (by omega) (by omega)
        rw [Int.toNat_natCast] at hc
        have hm : rd xs (i : Int) ∈ xs := by
          show xs.getD (i : Int).toNat 0 ∈ xs
          rw [Int.toNat_natCast, List.getD_eq_getElem?_getD, List.getElem?_eq_getElem (by omega)]
          exact List.getElem_mem _
        have hb := HX.out _ hm
        have hl := fillL_len (fun x => le8 (x % 18446744073709551616)) 8 (fun _ => rfl) xs i (by omega)
        have HPP := Aside0.mk (HP.out i _ (rd xs (i : Int)) wr HL.out hl (by omega) hb.1 hb.2)
        have hs := fillL_step (fun x => le8 (x % 18446744073709551616)) 8 (fun _ => rfl) xs i (by omega)
        have hs2 : xs.getD i 0 = rd xs (i : Int) := rfl
        rw [hs2] at hs
        have HS := Aside0.mk hs
        have g0 : (0 : Int) ≤ (i : Int) := by omega
        clear hs hs2 hl hb hm HP HX HZ HB
        go_wp2_with (first | (go_at_call 87; refine HPP.out.mono ?_; rintro e w2 ⟨rfl, e1, e2, e3⟩; have E1 := Aside0.mk e1; have E3 := Aside0.mk e3; clear e1 e2 e3))
        go_roundg k1
        case measure => have := HK.out; omega
        case rel => exact ⟨i + 1, (by simp), ⟨by have := HK.out; omega⟩, ⟨by omega⟩, ⟨by have := E1.out; rwa [HS.out] at this⟩, ⟨HBB.out.trans E3.out⟩⟩
      · have c2b : decide ((i : Int) < (xs.length : Int)) = false := decide_eq_false c2
        go_wp2
        go_ret
        have hi : i = xs.length := by have := HI.out; omega
        refine ⟨rfl, ?_, HBB.out⟩
        have := HL.out
        rw [hi] at this
        simpa [fillL] using this

/-- The bytes of a number. -/
def byI64 (x : Int) : List Int := le8 (x % 18446744073709551616)
set_option maxHeartbeats 2000000 in
set_option maxRecDepth 100000 in
theorem wleI64_calls (E S B D : Nat) (l : List Int) (pos : Nat) (q : Int) (G : Nat) (A : Option Addr) (c : Nat) (xs : List Int) (w : World) (hE : EncAt w E S) (h : Snk w S B D l pos q G) (hr : Kd.C (Kd.int .i64) w A xs.length xs) (hx : ∀ x ∈ xs, -9223372036854775808 ≤ x ∧ x ≤ 9223372036854775807) (hb : pos + 8 * xs.length ≤ 4194304) :
    Calls Try.prog 54 #[.pointer (some ⟨E, 0, none⟩), .slice A xs.length c] w fun e w' => e = .returned (.tuple #[]) ∧ Wrote w w' S B D l pos q G (xs.flatMap byI64) := by
  have HG := Aside0.mk (getI64_calls A c xs w hr (by omega) hx)
  have hlen : (xs.flatMap byI64).length = 8 * xs.length := flat_len byI64 8 (fun _ => rfl) xs
  have HA := Aside0.mk (fun w1 (hb1 : Below w.heap.size w w1) (hX : Row w1 w.heap.size (xs.flatMap byI64)) => append_calls E S B D l pos q G (some ⟨w.heap.size, 0, none⟩) (8 * xs.length) (xs.flatMap byI64) w1 (hE.below hb1) (h.below hb1) (by rw [hlen]; exact hb) (lies_row hX (Nat.ne_of_gt (blk_lt h.s)) (Nat.ne_of_gt (blk_lt h.b.1)) (Nat.ne_of_gt (blk_lt h.b.2))))
  rw [hlen] at HA
  have H := Aside0.mk h
  clear h hE hr hx
  go_enter Try.func54, Try.ntmps54
  go_wp2_with (first | (go_at_call 72; refine HG.out.mono ?_; rintro e w1 ⟨rfl, e1, e2⟩; have HA1 := Aside0.mk (HA.out w1 e2 e1); have E2 := Aside0.mk e2; clear e1 e2) | (go_at_call 67; refine HA1.out.mono ?_; rintro e w2 ⟨rfl, e1⟩; have E1 := Aside0.mk e1; clear e1))
  go_end0
  exact ⟨rfl, wrote_after H.out E2.out E1.out⟩
set_option maxHeartbeats 2000000 in
set_option maxRecDepth 100000 in
theorem putEI64_calls (E S B D : Nat) (l : List Int) (pos : Nat) (q : Int) (G : Nat) (A : Option Addr) (c : Nat) (xs : List Int) (w : World) (hE : EncAt w E S) (h : Snk w S B D l pos q G) (hr : Kd.C (Kd.int .i64) w A xs.length xs) (hx : ∀ x ∈ xs, -9223372036854775808 ≤ x ∧ x ≤ 9223372036854775807) (hb : pos + 8 * xs.length ≤ 4194304) :
    Calls Try.prog 30 #[.pointer (some ⟨E, 0, none⟩), .slice A xs.length c] w fun e w' => e = .returned (.tuple #[]) ∧ Wrote w w' S B D l pos q G (xs.flatMap byI64) := by
  have HW := Aside0.mk (wleI64_calls E S B D l pos q G A c xs w hE h hr hx hb)
  clear hE h hr hx
  go_enter Try.func30, Try.ntmps30
  go_wp2_with (first | (go_at_call 54; refine HW.out.mono ?_; rintro e w1 ⟨rfl, e1⟩; have E1 := Aside0.mk e1; clear e1))
  go_end0
  exact ⟨rfl, E1.out⟩
set_option maxHeartbeats 2000000 in
set_option maxRecDepth 100000 in
theorem newI64_calls (w : World) : Calls Try.prog 29 #[.iface 48 (.agg #[])] w fun e w' => ∃ E S B D l G, e = .returned (.pointer (some ⟨E, 0, none⟩)) ∧ Made w w' E S B D l G := by
  have HB := Aside0.mk (base_calls w)
  go_enter Try.func29, Try.ntmps29
  go_wp2_with (first | (go_at_call 47; refine HB.out.mono ?_; rintro e w1 ⟨rfl, B, D, l, G, g1, g2, g3, g4⟩; have G1 := Aside0.mk g1; have G2 := Aside0.mk g2; have G3 := Aside0.mk g3; have G4 := Aside0.mk g4; clear g1 g2 g3 g4))
  go_ret
  exact ⟨_, _, B, D, l, G, rfl, made_of G1.out G2.out G3.out G4.out rfl⟩

end Go.Proofs.Ytcfnniminikmfaa.Q
