/- The encoder of differences: its object, its differences, its stream. -/
import Derived.Test.YtdekingogcmboaaMB
import Derived.Test.YtdekingogcmboaaPb
namespace Go.Proofs.Ytdekingogcmboaa.Q
open Go.RowKit Go.Proofs.YtdekingogcmboaaW.PrintWords Go.Proofs.YtdekingogcmboaaW.PrintLast Go.Proofs.YtdekingogcmboaaW.PrintMore
set_option linter.unusedVariables false
set_option linter.unusedSimpArgs false
def encL (S W tot : Nat) (first cur : Int) (dv : Value) : Array Value := #[.iface 51 (.agg #[]), .pointer (some ⟨S, 0, none⟩), .int .i64 0, .pointer (some ⟨W, 0, none⟩), .int .u64 (tot : Int), .int .i64 first, .int .i64 cur, .int .u64 128, .int .u64 32, .int .u64 4, dv, .pointer none]
/-- Differences that wait. -/
def Dl (w : World) (lo : Nat) (dv : Value) (ds : List Int) : Prop := w.ownsRow lo 2 1 dv ds.length (ds.map (Value.int .i64))
/-- A stream's bytes, all told. -/
def Sm (w : World) (lo W S : Nat) (out : List Int) : Prop := ∃ pre N bits, St w lo W S pre N bits ∧ bits % 32 = 0 ∧ pre ++ toB (bits / 8) N = out
theorem Sm.len {pre out : List Int} {N bits : Nat} (h0 : bits % 32 = 0) (h : pre ++ toB (bits / 8) N = out) : pre.length + bits ≤ 9 * out.length := by
  have := congrArg List.length h
  rw [List.length_append, toB_len] at this
  omega
def En (T : TypeId) (w : World) (lo E S W tot : Nat) (first cur : Int) (ds out : List Int) : Prop :=
  ∃ dv, w.heap[E]? = some (.cells (encL S W tot first cur dv) T (0, 0)) ∧ lo ≤ E ∧ Dl w lo dv ds ∧ Sm w lo W S out
/-- What is read of the differences. -/
structure Dg (w : World) (lo g cap : Nat) (cur : Array Value) (ds : List Int) : Prop where
  h : w.heap[g]? = some (.cells cur 2 (0, 0))
  lo : lo ≤ g
  le : ds.length ≤ cap
  mx : cap ≤ maxLen
  sz : cur.size = cap * 1
  tk : cur.toList.take (ds.length * 1) = ds.map (Value.int .i64)
theorem Dl.open_ {w : World} {lo : Nat} {dv : Value} {ds : List Int} (h : Dl w lo dv ds) (hn : ds ≠ []) : ∃ g cap cur, dv = .slice (some ⟨g, 0, none⟩) ds.length cap ∧ Dg w lo g cap cur ds := by
  obtain ⟨_, h⟩ := h
  rcases h with ⟨_, h⟩ | ⟨g, cap, cur, rfl, h1, h2, h3, h4, h5, h6⟩
  · exact absurd (List.eq_nil_of_length_eq_zero h) hn
  · exact ⟨g, cap, cur, rfl, h2, h1, h3, h4, h5, h6⟩
theorem Dg.cell {w : World} {lo g cap : Nat} {cur : Array Value} {ds : List Int} (h : Dg w lo g cap cur ds) (j : Nat) (hj : j < ds.length) : w.cell? ⟨g, j, none⟩ = some (.int .i64 (ds.getD j 0)) := by
  rw [blk_cell h.h j]
  have e : (cur.toList.take (ds.length * 1))[j]? = (ds.map (Value.int .i64))[j]? := by rw [h.tk]
  rw [List.getElem?_take_of_lt (by omega)] at e
  rw [← Array.getElem?_toList, e]
  simp [List.getD_eq_getElem?_getD, hj]
theorem Dg.fr {w w' : World} {lo g cap : Nat} {cur : Array Value} {ds : List Int} (h : Dg w lo g cap cur ds) (f : Fr lo w w') : Dg w' lo g cap cur ds :=
  ⟨f.keep g 2 cur h.h (by decide) (by decide) (by decide) (by decide), h.lo, h.le, h.mx, h.sz, h.tk⟩
theorem Dg.drew {w : World} {lo g cap : Nat} {cur : Array Value} {ds : List Int} (h : Dg w lo g cap cur ds) : Dg w.drew lo g cap cur ds := ⟨h.h, h.lo, h.le, h.mx, h.sz, h.tk⟩
/-- Cut to nothing. -/
theorem Dg.none_ {w : World} {lo g cap : Nat} {cur : Array Value} {ds : List Int} (h : Dg w lo g cap cur ds) : Dl w lo (.slice (some ⟨g, 0, none⟩) 0 cap) [] :=
  ⟨rfl, .inr ⟨g, cap, cur, rfl, h.lo, h.h, Nat.zero_le _, h.mx, h.sz, by simp⟩⟩
theorem Dl.set_ {w : World} {lo : Nat} {dv : Value} {ds : List Int} (h : Dl w lo dv ds) {E : Nat} {T : TypeId} {cs : Array Value} (hE : w.heap[E]? = some (.cells cs T (0, 0))) (hT : T ≠ 2) (j : Nat) (u : Value) : Dl (w.setCell ⟨E, j, none⟩ u) lo dv ds := by
  obtain ⟨h0, h⟩ := h
  refine ⟨h0, ?_⟩
  rcases h with h | ⟨g, cap, cur, hv, h1, h2, h3⟩
  · exact .inl h
  · exact .inr ⟨g, cap, cur, hv, h1, blk_far h2 (p := ⟨E, j, none⟩) (blk_ne h2 hE (Ne.symm hT)) u, h3⟩
theorem Dl.fr {w w' : World} {lo : Nat} {dv : Value} {ds : List Int} (h : Dl w lo dv ds) (f : Fr lo w w') : Dl w' lo dv ds := by
  obtain ⟨h0, h⟩ := h
  refine ⟨h0, ?_⟩
  rcases h with h | ⟨g, cap, cur, hv, h1, h2, h3⟩
  · exact .inl h
  · exact .inr ⟨g, cap, cur, hv, h1, f.keep g 2 cur h2 (by decide) (by decide) (by decide) (by decide), h3⟩
/-- A store into the encoder does not touch the stream. -/
theorem Bs.setE {w : World} {lo W S : Nat} {done : List Int} {byo buf bto : Nat} {rs : List Int} (h : Bs w lo W S done byo buf bto rs) {E : Nat} {T : TypeId} {cs : Array Value} (hE : w.heap[E]? = some (.cells cs T (0, 0))) (h1 : T ≠ 95) (h2 : T ≠ 110) (h3 : T ≠ 117) (h4 : T ≠ 5) (j : Nat) (u : Value) : Bs (w.setCell ⟨E, j, none⟩ u) lo W S done byo buf bto rs := by
  obtain ⟨B, D, k, q, G, b, s, l⟩ := h
  exact ⟨B, D, k, q, G, ⟨blk_far b.1 (p := ⟨E, j, none⟩) (blk_ne b.1 hE (Ne.symm h1)) u, b.2⟩, ⟨blk_far s.s (p := ⟨E, j, none⟩) (blk_ne s.s hE (Ne.symm h2)) u, ⟨blk_far s.b.1 (p := ⟨E, j, none⟩) (blk_ne s.b.1 hE (Ne.symm h3)) u, blk_far s.b.2 (p := ⟨E, j, none⟩) (blk_ne s.b.2 hE (Ne.symm h4)) u⟩, s.le, s.lo, s.hi⟩, l⟩
theorem St.setE {w : World} {lo W S : Nat} {pre : List Int} {N bits : Nat} (h : St w lo W S pre N bits) {E : Nat} {T : TypeId} {cs : Array Value} (hE : w.heap[E]? = some (.cells cs T (0, 0))) (h1 : T ≠ 95) (h2 : T ≠ 110) (h3 : T ≠ 117) (h4 : T ≠ 5) (j : Nat) (u : Value) : St (w.setCell ⟨E, j, none⟩ u) lo W S pre N bits := by
  obtain ⟨hN, rs, hb⟩ := h
  exact ⟨hN, rs, hb.setE hE h1 h2 h3 h4 j u⟩
theorem Sm.setE {w : World} {lo W S : Nat} {out : List Int} (h : Sm w lo W S out) {E : Nat} {T : TypeId} {cs : Array Value} (hE : w.heap[E]? = some (.cells cs T (0, 0))) (h1 : T ≠ 95) (h2 : T ≠ 110) (h3 : T ≠ 117) (h4 : T ≠ 5) (j : Nat) (u : Value) : Sm (w.setCell ⟨E, j, none⟩ u) lo W S out := by
  obtain ⟨pre, N, bits, h, h0⟩ := h
  exact ⟨pre, N, bits, h.setE hE h1 h2 h3 h4 j u, h0⟩
theorem St.drew {w : World} {lo W S : Nat} {pre : List Int} {N bits : Nat} (h : St w lo W S pre N bits) : St w.drew lo W S pre N bits := by
  obtain ⟨hN, rs, hb⟩ := h
  exact ⟨hN, rs, hb.drew⟩
theorem St.drewN {w : World} {lo W S : Nat} {pre : List Int} {N bits : Nat} (h : St w lo W S pre N bits) (n : Nat) : St (w.drewN n) lo W S pre N bits := by
  obtain ⟨hN, rs, hb⟩ := h
  exact ⟨hN, rs, hb.drewN n⟩
theorem Bs.alloc {w : World} {lo W S : Nat} {done : List Int} {byo buf bto : Nat} {rs : List Int} (h : Bs w lo W S done byo buf bto rs) (o : Obj) : Bs (w.alloc o) lo W S done byo buf bto rs := by
  obtain ⟨B, D, k, q, G, b, s, l⟩ := h
  exact ⟨B, D, k, q, G, b.alloc o, ⟨blk_alloc s.s o, ⟨blk_alloc s.b.1 o, blk_alloc s.b.2 o⟩, s.le, s.lo, s.hi⟩, l⟩
theorem St.alloc {w : World} {lo W S : Nat} {pre : List Int} {N bits : Nat} (h : St w lo W S pre N bits) (o : Obj) : St (w.alloc o) lo W S pre N bits := by
  obtain ⟨hN, rs, hb⟩ := h
  exact ⟨hN, rs, hb.alloc o⟩
theorem St.lolt {w : World} {lo W S : Nat} {pre : List Int} {N bits : Nat} (h : St w lo W S pre N bits) : lo ≤ w.heap.size := by
  obtain ⟨hN, rs, hb⟩ := h
  have := hb.low; have := hb.bw.lt; omega
theorem Fr.alloc {lo : Nat} {w : World} (h : lo ≤ w.heap.size) (o : Obj) : Fr lo w (w.alloc o) := ⟨(below_alloc (Below.refl _ _) _).mono h, fun g t cs e _ _ _ _ => blk_alloc e o⟩
set_option maxHeartbeats 1000000 in
set_option maxRecDepth 100000 in
theorem min_calls (n : Nat) (w : World) : Calls Try.prog 41 #[.int .i64 32, .int .i64 (n : Int)] w fun e w' => e = .returned (.int .i64 ((min 32 n : Nat) : Int)) ∧ w' = w := by
  by_cases c : 32 < n
  · have hd : decide ((32 : Int) < (n : Int)) = true := decide_eq_true (by omega)
    have e : min 32 n = 32 := by omega
    rw [e]
    clear c
    go_enter Try.func41, Try.ntmps41
    go_wp2
    go_ret
    exact ⟨rfl, rfl⟩
  · have hd : decide ((32 : Int) < (n : Int)) = false := decide_eq_false (by omega)
    have e : min 32 n = n := by omega
    rw [e]
    clear c
    go_enter Try.func41, Try.ntmps41
    go_wp2
    go_ret
    exact ⟨rfl, rfl⟩
set_option maxHeartbeats 1000000 in
set_option maxRecDepth 100000 in
theorem max64_calls (a b : Int) (w : World) : Calls Try.prog 42 #[.int .i64 a, .int .i64 b] w fun e w' => e = .returned (.int .i64 (if a > b then a else b)) ∧ w' = w := by
  by_cases c : a > b
  · have hd : decide (a > b) = true := decide_eq_true c
    rw [if_pos c]
    clear c
    go_enter Try.func42, Try.ntmps42
    go_wp2
    go_ret
    exact ⟨rfl, rfl⟩
  · have hd : decide (a > b) = false := decide_eq_false c
    rw [if_neg c]
    clear c
    go_enter Try.func42, Try.ntmps42
    go_wp2
    go_ret
    exact ⟨rfl, rfl⟩
set_option maxRecDepth 100000 in
theorem slice_ds (g n cap s e : Nat) (he : s < e) (hc : e ≤ cap) (W : World) : (Instr.sliceAt 24 (.slice (some ⟨g, 0, none⟩) n cap) (some (.int .i64 (s : Int))) (some (.int .i64 (e : Int))) none).run Try.prog W = .ok (.slice (some ⟨g, s, none⟩) (e - s) (cap - s)) W := by
  rw [run_sliceAt_slice W 24 _ _ _ _ Try.underlying24, run_slice_lh W 24 (some ⟨g, 0, none⟩) n cap Try.underlying24 .i64 .i64 (s : Int) (e : Int) (by omega) (by omega) (by omega)]
  have hsz : (sizeOf (Try.prog.elem 24)).run Try.prog W = .ok 1 W := by kernel_rfl
  rw [hsz]
  simp only [Result.andThen, sliced, Int.toNat_natCast]
  rw [if_neg (by omega)]
  simp [Addr.add]
  omega
end Go.Proofs.Ytdekingogcmboaa.Q
