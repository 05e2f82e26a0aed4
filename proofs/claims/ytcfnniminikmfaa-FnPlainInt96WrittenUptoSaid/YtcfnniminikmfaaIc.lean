/- Numbers of 96 bits: their bytes, written. -/
import Derived.Test.YtcfnniminikmfaaIb
namespace Go.Proofs.Ytcfnniminikmfaa.Q
open Go.RowKit Go.Proofs.YtcfnniminikmfaaW.PrintWords Go.Proofs.YtcfnniminikmfaaW.PrintLast Go.Proofs.YtcfnniminikmfaaW.PrintMore
set_option linter.unusedVariables false
set_option linter.unusedSimpArgs false
def fill96 (xs : List (List Int)) (i : Nat) : List Int := (xs.take i).flatten ++ List.replicate (12 * (xs.length - i)) 0
theorem flat96_len (xs : List (List Int)) (h : ∀ x ∈ xs, x.length = 12) : xs.flatten.length = 12 * xs.length := by
  induction xs with
  | nil => simp
  | cons x r ih =>
    rw [List.flatten_cons, List.length_append, h x (by simp), ih (fun y hy => h y (by simp [hy])), List.length_cons, Nat.mul_add]; omega
theorem fill96_len (xs : List (List Int)) (h : ∀ x ∈ xs, x.length = 12) (i : Nat) (hi : i ≤ xs.length) : (fill96 xs i).length = 12 * xs.length := by
  unfold fill96
  rw [List.length_append, flat96_len _ (fun x hx => h x (List.mem_of_mem_take hx)), List.length_replicate, List.length_take, Nat.min_eq_left hi, ← Nat.mul_add]
  congr 1; omega
theorem fill96_step (xs : List (List Int)) (h : ∀ x ∈ xs, x.length = 12) (i : Nat) (hi : i < xs.length) :
    (fill96 xs i).take (12 * i) ++ rdOf [] xs (i : Int) ++ (fill96 xs i).drop (12 * i + 12) = fill96 xs (i + 1) := by
  have hl : ((xs.take i).flatten).length = 12 * i := by rw [flat96_len _ (fun x hx => h x (List.mem_of_mem_take hx)), List.length_take, Nat.min_eq_left (by omega)]
  unfold fill96
  rw [List.take_append_of_le_length (by omega), List.take_of_length_le (by omega), List.drop_append, hl, List.drop_of_length_le (by omega), List.drop_replicate]
  have e1 : xs.take (i + 1) = xs.take i ++ [rdOf [] xs (i : Int)] := by
    show _ = xs.take i ++ [xs.getD (i : Int).toNat []]
    rw [Int.toNat_natCast, List.take_add_one, List.getD_eq_getElem?_getD, List.getElem?_eq_getElem hi]; rfl
  have e2 : 12 * (xs.length - i) - (12 * i + 12 - 12 * i) = 12 * (xs.length - (i + 1)) := by omega
  rw [e1, List.flatten_append, e2]
  simp
set_option maxHeartbeats 1000000 in
set_option maxRecDepth 100000 in
theorem getI96_calls (A : Option Addr) (c : Nat) (xs : List (List Int)) (w : World) (hr : Kd.C k96 w A xs.length xs) (hn : xs.length ≤ 1048576) (hx : ∀ x ∈ xs, x.length = 12) :
    Calls Try.prog 75 #[.slice A xs.length c] w fun e w' => ∃ X, w.heap.size ≤ X ∧ e = .returned (.slice (some ⟨X, 0, none⟩) (12 * xs.length) (12 * xs.length)) ∧ Row w' X xs.flatten ∧ Below w.heap.size w w' := by
  have HQ := Aside0.mk (reqI96_calls xs.length w hn)
  have HR := Aside0.mk hr
  have HX := Aside0.mk hx
  have hmk := make_bytes (12 * xs.length) (by omega)
  rw [show ((12 * xs.length : Nat) : Int) = 12 * (xs.length : Int) by omega] at hmk
  clear hr hx
  go_enter Try.func75, Try.ntmps75
  go_wp2_with (first | (go_at_call 92; refine HQ.out.mono ?_; rintro e w0 ⟨rfl, hw0⟩; have HB0 := Aside0.mk hw0; clear hw0))
  have hz := row_zeros w0 (12 * xs.length)
  have HB := Aside0.mk (HB0.out.trans ((below_alloc (Below.refl w0.heap.size w0) (zeros (12 * xs.length))).mono HB0.out.size))
  have HZ := Aside0.mk (show Row (w0.alloc (zeros (12 * xs.length))) w0.heap.size (fill96 xs 0) by simpa [fill96] using hz)
  have HXS := Aside0.mk HB0.out.size
  generalize w0.alloc (zeros (12 * xs.length)) = w1 at HB HZ ⊢
  generalize w0.heap.size = X at HZ HXS ⊢
  clear hmk HQ hz HB0
  have HP := Aside0.mk (fun i l b0 b1 b2 b3 b4 b5 b6 b7 b8 b9 b10 b11 W h hn hi => putI96_calls X (12 * xs.length) i l b0 b1 b2 b3 b4 b5 b6 b7 b8 b9 b10 b11 W h hn hi (by omega))
  go_loopg [12] (xs.length + 1) (fun kq v12 w' => ∃ i : Nat, v12 = .int .i64 (i : Int) ∧ Aside0 (i + kq = xs.length + 1) ∧ Aside0 (i ≤ xs.length) ∧ Aside0 (Row w' X (fill96 xs i)) ∧ Aside0 (Below w.heap.size w w'))
  case atStart => exact ⟨0, rfl, ⟨by omega⟩, ⟨by omega⟩, HZ, HB⟩
  case round =>
    obtain ⟨i, rfl, HK, HI, HL, HBB⟩ := hrel
    cases gk with
    | zero => exact absurd HK.out (by have := HI.out; omega)
    | succ k1 =>
      by_cases c2 : (i : Int) < (xs.length : Int)
      · have c2b : decide ((i : Int) < (xs.length : Int)) = true := decide_eq_true c2
        obtain ⟨ad, b0, b1, b2, b3, b4, b5, b6, b7, b8, b9, b10, b11, rfl, hrd, x0, x1, x2, x3, x4, x5, x6, x7, x8, x9, x10, x11⟩ := at_96 (Kd.C_below HR.out HBB.out) (i : Int) (by omega) (by omega)
        rw [Int.toNat_natCast] at x0 x1 x2 x3 x4 x5 x6 x7 x8 x9 x10 x11
        have hl := fill96_len xs HX.out i (by omega)
        have hs := fill96_step xs HX.out i (by omega)
        rw [hrd] at hs
        have HS := Aside0.mk hs
        have hBx : Below wr.heap.size wr (wr.alloc (.cells #[.int .u8 b0, .int .u8 b1, .int .u8 b2, .int .u8 b3, .int .u8 b4, .int .u8 b5, .int .u8 b6, .int .u8 b7, .int .u8 b8, .int .u8 b9, .int .u8 b10, .int .u8 b11] 93)) := below_alloc (Below.refl _ _) _
        have hP := HP.out i _ b0 b1 b2 b3 b4 b5 b6 b7 b8 b9 b10 b11 (wr.alloc (.cells #[.int .u8 b0, .int .u8 b1, .int .u8 b2, .int .u8 b3, .int .u8 b4, .int .u8 b5, .int .u8 b6, .int .u8 b7, .int .u8 b8, .int .u8 b9, .int .u8 b10, .int .u8 b11] 93)) (HL.out.alloc _) hl (by omega)
        unfold ag12 at hP
        have HPP := Aside0.mk hP
        have HBX := Aside0.mk hBx
        have HLX := Aside0.mk HL.out.lt
        have g0 : (0 : Int) ≤ (i : Int) := by omega
        clear hs hrd hl HP HX HZ HB hP hBx
        go_wp2_with (first | (go_at_call 93; refine HPP.out.mono ?_; rintro e w2 ⟨rfl, e1, e3⟩; have E1 := Aside0.mk e1; have E3 := Aside0.mk e3; clear e1 e3))
        have hb2 : Below w.heap.size w w2 := (HBB.out.trans (HBX.out.mono HBB.out.size)).trans (E3.out.mono HXS.out)
        go_roundg k1
        case measure => have := HK.out; omega
        case rel => exact ⟨i + 1, (by simp), ⟨by have := HK.out; omega⟩, ⟨by omega⟩, ⟨by have := E1.out; rwa [HS.out] at this⟩, ⟨hb2⟩⟩
      · have c2b : decide ((i : Int) < (xs.length : Int)) = false := decide_eq_false c2
        go_wp2
        go_ret
        have hi : i = xs.length := by have := HI.out; omega
        refine ⟨X, HXS.out, rfl, ?_, HBB.out⟩
        have := HL.out
        rw [hi] at this
        simpa [fill96] using this
set_option maxHeartbeats 1000000 in
set_option maxRecDepth 100000 in
theorem wleI96_calls (E S B D : Nat) (l : List Int) (pos : Nat) (q : Int) (G : Nat) (A : Option Addr) (c : Nat) (xs : List (List Int)) (w : World) (hE : EncAt w E S) (h : Snk w S B D l pos q G) (hr : Kd.C k96 w A xs.length xs) (hx : ∀ x ∈ xs, x.length = 12) (hb : pos + 12 * xs.length ≤ 4194304) :
    Calls Try.prog 59 #[.pointer (some ⟨E, 0, none⟩), .slice A xs.length c] w fun e w' => e = .returned (.tuple #[]) ∧ Wrote w w' S B D l pos q G xs.flatten := by
  have HG := Aside0.mk (getI96_calls A c xs w hr (by omega) hx)
  have hlen : xs.flatten.length = 12 * xs.length := flat96_len xs hx
  have HA := Aside0.mk (fun X w1 (hX0 : w.heap.size ≤ X) (hb1 : Below w.heap.size w w1) (hX : Row w1 X xs.flatten) => append_calls E S B D l pos q G (some ⟨X, 0, none⟩) (12 * xs.length) xs.flatten w1 (hE.below hb1) (h.below hb1) (by rw [hlen]; exact hb) (lies_row hX (by have := blk_lt h.s; omega) (by have := blk_lt h.b.1; omega) (by have := blk_lt h.b.2; omega)))
  rw [hlen] at HA
  have H := Aside0.mk h
  clear h hE hr hx
  go_enter Try.func59, Try.ntmps59
  go_wp2_with (first | (go_at_call 75; refine HG.out.mono ?_; rintro e w1 ⟨X, hX, rfl, e1, e2⟩; have HA1 := Aside0.mk (HA.out X w1 hX e2 e1); have E2 := Aside0.mk e2; clear e1 e2 hX) | (go_at_call 67; refine HA1.out.mono ?_; rintro e w2 ⟨rfl, e1⟩; have E1 := Aside0.mk e1; clear e1))
  go_end0
  exact ⟨rfl, wrote_after H.out E2.out E1.out⟩
set_option maxHeartbeats 1000000 in
set_option maxRecDepth 100000 in
theorem putEI96_calls (E S B D : Nat) (l : List Int) (pos : Nat) (q : Int) (G : Nat) (A : Option Addr) (c : Nat) (xs : List (List Int)) (w : World) (hE : EncAt w E S) (h : Snk w S B D l pos q G) (hr : Kd.C k96 w A xs.length xs) (hx : ∀ x ∈ xs, x.length = 12) (hb : pos + 12 * xs.length ≤ 4194304) :
    Calls Try.prog 39 #[.pointer (some ⟨E, 0, none⟩), .slice A xs.length c] w fun e w' => e = .returned (.tuple #[]) ∧ Wrote w w' S B D l pos q G xs.flatten := by
  have HW := Aside0.mk (wleI96_calls E S B D l pos q G A c xs w hE h hr hx hb)
  clear hE h hr hx
  go_enter Try.func39, Try.ntmps39
  go_wp2_with (first | (go_at_call 59; refine HW.out.mono ?_; rintro e w1 ⟨rfl, e1⟩; have E1 := Aside0.mk e1; clear e1))
  go_end0
  exact ⟨rfl, E1.out⟩
set_option maxHeartbeats 1000000 in
set_option maxRecDepth 100000 in
theorem newI96_calls (w : World) : Calls Try.prog 38 #[.iface 48 (.agg #[])] w fun e w' => ∃ E S B D l G, e = .returned (.pointer (some ⟨E, 0, none⟩)) ∧ Made w w' E S B D l G := by
  have HB := Aside0.mk (base_calls w)
  go_enter Try.func38, Try.ntmps38
  go_wp2_with (first | (go_at_call 47; refine HB.out.mono ?_; rintro e w1 ⟨rfl, B, D, l, G, g1, g2, g3, g4⟩; have G1 := Aside0.mk g1; have G2 := Aside0.mk g2; have G3 := Aside0.mk g3; have G4 := Aside0.mk g4; clear g1 g2 g3 g4))
  go_ret
  exact ⟨_, _, B, D, l, G, rfl, made_of G1.out G2.out G3.out G4.out rfl⟩
end Go.Proofs.Ytcfnniminikmfaa.Q
