/- The row that is joined into. -/
import Derived.Test.YtgccaabpckfhlaaJd
import Derived.Test.YtgccaabpckfhlaaJb
namespace Go.Proofs.Ytgccaabpckfhlaa.Q
open Go.RowKit Go.Proofs.YtgccaabpckfhlaaW.PrintWords Go.Proofs.YtgccaabpckfhlaaW.PrintLast Go.Proofs.YtgccaabpckfhlaaW.PrintMore
set_option linter.unusedVariables false
set_option linter.unusedSimpArgs false
/-- What has been joined: k bytes of n, in a row of m, of the buffer B. -/
structure Dst (W0 w : World) (B D n m : Nat) (A0 : Option Addr) (k : Nat) (out : List Int) : Prop where
  hk : out.length = k
  kn : k ≤ n
  nm : n ≤ m
  z : n = 0 → m = 0
  buf : w.heap[B]? = some (bufH (.slice A0 m m) (n : Int))
  row : 0 < n → A0 = some ⟨D, 0, none⟩ ∧ D ≠ B ∧ ∃ lc, Row w D lc ∧ lc.length = m ∧ lc.take k = out
  bB : W0.heap.size ≤ B
  bD : 0 < n → W0.heap.size ≤ D
  bel : Below W0.heap.size W0 w
/-- Where the next byte goes. -/
def At (D m k : Nat) (Ax : Option Addr) : Prop := 0 < m - k → Ax = some ⟨D, k, none⟩
set_option maxRecDepth 100000 in
theorem sliceFrom_any (A : Option Addr) (L c i : Nat) (hi : i ≤ L) (hL : L ≤ c) (W : World) : (Instr.sliceAt 24 (.slice A L c) (some (.int .i64 (i : Int))) none none).run Try.prog W = .ok (.slice (if c - i = 0 then A else A.map (·.add i)) (L - i) (c - i)) W := by
  rw [run_sliceAt_slice W 24 _ _ _ _ Try.underlying24, run_slice_l W 24 A L c Try.underlying24 .i64 (i : Int) (by omega) (by omega)]
  have hsz : (sizeOf (Try.prog.elem 24)).run Try.prog W = .ok 1 W := by kernel_rfl
  rw [hsz]
  simp only [Result.andThen, sliced, Int.toNat_natCast, Nat.mul_one]
  by_cases c0 : c - i = 0
  · rw [if_pos c0, if_pos (by omega)]
  · rw [if_neg c0, if_neg (by omega)]
set_option maxRecDepth 100000 in
theorem slice_any (A : Option Addr) (L c i j : Nat) (hi : i ≤ j) (hL : j ≤ c) (W : World) : (Instr.sliceAt 24 (.slice A L c) (some (.int .i64 (i : Int))) (some (.int .i64 (j : Int))) none).run Try.prog W = .ok (.slice (if c - i = 0 then A else A.map (·.add i)) (j - i) (c - i)) W := by
  rw [run_sliceAt_slice W 24 _ _ _ _ Try.underlying24, run_slice_lh W 24 A L c Try.underlying24 .i64 .i64 (i : Int) (j : Int) (by omega) (by omega) (by omega)]
  have hsz : (sizeOf (Try.prog.elem 24)).run Try.prog W = .ok 1 W := by kernel_rfl
  rw [hsz]
  simp only [Result.andThen, sliced, Int.toNat_natCast, Nat.mul_one]
  by_cases c0 : c - i = 0
  · rw [if_pos c0, if_pos (by omega)]
  · rw [if_neg c0, if_neg (by omega)]
theorem Dst.drewN {W0 w : World} {B D n m : Nat} {A0 : Option Addr} {k : Nat} {out : List Int} (h : Dst W0 w B D n m A0 k out) (q : Nat) : Dst W0 (w.drewN q) B D n m A0 k out := ⟨h.hk, h.kn, h.nm, h.z, h.buf, h.row, h.bB, h.bD, pw_below_drewN h.bel q⟩
theorem dst_step {W0 w : World} {B D n m : Nat} {A0 Ax As : Option Addr} {k ln cs : Nat} {out bs : List Int} (h : Dst W0 w B D n m A0 k out) (hx : At D m k Ax) (hb : bs.length = ln) (hl : k + ln ≤ n) (hm : m ≤ 1099511627776)
    (hs : 0 < ln → ∃ a, As = some a ∧ ∀ j, j < ln → w.cell? (a.add j) = some (.int .u8 (bs.getD j 0))) :
    ∃ w3 Ax', (Builtin.copy_ #[24, 24] 3 #[.slice Ax (n - k) (m - k), .slice As ln cs]).run Try.prog w = .ok (.int .i64 (ln : Int)) w3 ∧ (∀ W, (Instr.sliceAt 24 (.slice Ax (n - k) (m - k)) (some (.int .i64 (ln : Int))) none none).run Try.prog W = .ok (.slice Ax' (n - (k + ln)) (m - (k + ln))) W) ∧ At D m (k + ln) Ax' ∧ Dst W0 w3 B D n m A0 (k + ln) (out ++ bs) := by
  have hnm := h.nm
  have hsl := sliceFrom_any Ax (n - k) (m - k) ln (by omega) (by omega)
  rw [show n - k - ln = n - (k + ln) by omega, show m - k - ln = m - (k + ln) by omega] at hsl
  by_cases c0 : ln = 0
  · subst c0
    have hz : bs = [] := List.eq_nil_of_length_eq_zero hb
    subst hz
    refine ⟨w, _, copy_none w Ax As (n - k) (m - k) 0 cs (by show min _ _ = 0; omega), hsl, ?_, by simpa using h⟩
    intro hp
    have := hx (by omega)
    subst this
    by_cases c1 : m - (k + 0) = 0
    · omega
    · rw [if_neg c1]; simp [Addr.add]
  · obtain ⟨a, rfl, hsr⟩ := hs (by omega)
    obtain ⟨rfl, hDB, lc, hr, hlc, htk⟩ := h.row (by omega)
    obtain rfl := hx (by omega)
    obtain ⟨w3, e0, e1, e2, e3, e4⟩ := copy_bytes w D k (n - k) (m - k) a ln cs lc bs hr (by show _ = min _ _; omega) (fun j hj => hsr j (by omega)) (by omega)
    rw [hb] at e0
    refine ⟨w3, _, e0, hsl, ?_, ⟨by simp [h.hk, hb], hl, hnm, h.z, (e3 B (Ne.symm hDB)).trans h.buf, fun _ => ⟨rfl, hDB, _, e1, ?_, ?_⟩, h.bB, h.bD, h.bel.trans (e4.mono (h.bD (by omega)))⟩⟩
    · intro hp
      rw [if_neg (by omega)]; simp [Addr.add]; try omega
    · simp; omega
    · rw [List.take_left' (by rw [List.length_append, List.length_take]; omega), htk]
theorem cell_row {w : World} {D : Nat} {l : List Int} (h : Row w D l) (n : Nat) (hn : n ≤ l.length) (hm : l.length ≤ 1099511627776) : Kd.C (Kd.int .u8) w (some ⟨D, 0, none⟩) (l.take n).length (l.take n) := by
  have hl : (l.take n).length = n := by simp; omega
  refine Kd.C_of_reads (enc := Value.int .u8) (d := (0 : Int)) (h1 := fun _ => rfl) ⟨rfl, by omega, fun _ => ⟨_, rfl, fun j hj => ?_⟩⟩
  have e : (⟨D, 0, none⟩ : Addr).add j = ⟨D, j, none⟩ := by simp [Addr.add]; omega
  rw [e, h.cell j (by omega), List.getD_eq_getElem?_getD, List.getD_eq_getElem?_getD, List.getElem?_take, if_pos (by omega)]
end Go.Proofs.Ytgccaabpckfhlaa.Q
