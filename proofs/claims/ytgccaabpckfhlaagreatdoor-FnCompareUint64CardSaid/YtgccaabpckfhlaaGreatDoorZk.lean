/- The kernels: what all three shapes share. -/
import Derived.Test.YtgccaabpckfhlaaGreatDoorZj
import Derived.Test.YtgccaabpckfhlaaGreatDoorZi
import Derived.Deep.DeepCutAuto
namespace Go.Proofs.YtgccaabpckfhlaaGreatDoor.Q
open Go.RowKit Go.Proofs.YtgccaabpckfhlaaGreatDoorW.PrintWords Go.Proofs.YtgccaabpckfhlaaGreatDoorW.PrintLast Go.Proofs.YtgccaabpckfhlaaGreatDoorW.PrintMore
set_option linter.unusedVariables false
set_option linter.unusedSimpArgs false
/-- The block that a kernel may write. -/
def SO (O : Nat) (bs : List Int) : Nat → Prop := fun k => k = O ∧ 0 < bs.length
/-- A kernel's state: the numbers in blocks D1 and D2, the answers of a round in block T, the comparing function in block P, the bits in block O. -/
structure KS (w w' : World) (D1 D2 T P F O B co : Nat) (xs ys bs0 : List Int) (b : Nat → Bool) (f k : Nat) (us bs : List Int) : Prop where
  r1 : RowK .u64 26 w' D1 xs
  r2 : RowK .u64 26 w' D2 ys
  rt : RowK .u32 162 w' T us
  ul : us.length = 32
  cp : w'.cell? ⟨P, 0, none⟩ = some (fv F)
  gl : Glob w'
  ob : Ob w' B O co bs
  td : Told b f k bs0 bs
  tn : Tn (SO O bs0) w w'
structure KD (w : World) (D1 D2 T P O : Nat) (bs0 : List Int) : Prop where
  t1 : D1 ≠ T
  t2 : D2 ≠ T
  tp : P ≠ T
  tg : 3 < T
  tw : w.heap.size ≤ T
  o : 0 < bs0.length → D1 ≠ O ∧ D2 ≠ O ∧ T ≠ O ∧ P ≠ O ∧ 2 ≠ O ∧ 3 ≠ O
section
variable {w w1 w2 : World} {D1 D2 T P F O B co : Nat} {xs ys bs0 : List Int} {b : Nat → Bool} {f k : Nat} {us bs : List Int}
theorem KS.cmp (h : KS w w1 D1 D2 T P F O B co xs ys bs0 b f k us bs) (d : KD w D1 D2 T P O bs0) {us2 : List Int} (hr : RowK .u32 162 w2 T us2) (hl : us2.length = 32) (ht : Tn (fun k => k = T) w1 w2) : KS w w2 D1 D2 T P F O B co xs ys bs0 b f k us2 bs :=
  ⟨h.r1.kept ht.kept d.t1, h.r2.kept ht.kept d.t2, hr, hl, cell_kept h.cp ht.kept d.tp, h.gl.kept ht.kept (by have := d.tg; omega) (by have := d.tg; omega),
    fun hp => (Ob.kept h.ob ht.kept (fun e => (d.o (by rw [← h.td.len]; exact hp)).2.2.1 e.symm)) hp, h.td, h.tn.then_ ht (fun k hk => .inr (by have := d.tw; omega))⟩
theorem KS.bits (h : KS w w1 D1 D2 T P F O B co xs ys bs0 b f k us bs) (d : KD w D1 D2 T P O bs0) {bs2 : List Int} {k2 : Nat} (hn : 0 < bs0.length) (ho : Ob w2 B O co bs2) (htd : Told b f k2 bs0 bs2) (ht : Tn (fun k => k = O) w1 w2) : KS w w2 D1 D2 T P F O B co xs ys bs0 b f k2 us bs2 :=
  have o := d.o hn
  ⟨h.r1.kept ht.kept o.1, h.r2.kept ht.kept o.2.1, h.rt.kept ht.kept o.2.2.1, h.ul, cell_kept h.cp ht.kept o.2.2.2.1, h.gl.kept ht.kept o.2.2.2.2.1 o.2.2.2.2.2, ho, htd, h.tn.then_ ht (fun k hk => .inl ⟨hk, hn⟩)⟩
theorem KS.drew (h : KS w w1 D1 D2 T P F O B co xs ys bs0 b f k us bs) : KS w w1.drew D1 D2 T P F O B co xs ys bs0 b f k us bs :=
  ⟨blk_drew h.r1, blk_drew h.r2, blk_drew h.rt, h.ul, h.cp, h.gl, fun hp => Kd.R_drew (h.ob hp), h.td, h.tn.drew⟩
theorem KS.drewN (h : KS w w1 D1 D2 T P F O B co xs ys bs0 b f k us bs) (n : Nat) : KS w (w1.drewN n) D1 D2 T P F O B co xs ys bs0 b f k us bs :=
  ⟨h.r1.drewN n, h.r2.drewN n, h.rt.drewN n, h.ul, h.cp, h.gl, fun hp => Kd.R_drewN (h.ob hp) n, h.td, h.tn.drewN n⟩
end
/-- The rest of a slice of numbers, and its head. -/
def At (A : Option Addr) (D d n : Nat) : Prop := 0 < n → A = some ⟨D, d, none⟩
set_option maxRecDepth 100000 in
theorem rest_q (A : Option Addr) (D d n c i : Nat) (z : Int) (hz : z = (i : Int)) (hA : At A D d n) (hi : i ≤ n) (hc : n ≤ c) : ∃ A', (∀ W : World, (Instr.sliceAt 22 (.slice A n c) (some (.int .i64 z)) none none).run Tryz.prog W = .ok (.slice A' (n - i) (c - i)) W) ∧ At A' D (d + i) (n - i) := by
  subst hz
  refine ⟨if c - i = 0 then A else A.map (·.add i), fun W => ?_, fun h => ?_⟩
  · rw [run_sliceAt_slice W 22 _ _ _ _ Tryz.underlying22, run_slice_l W 22 A n c Tryz.underlying22 .i64 (i : Int) (by omega) (by omega)]
    have hsz : (sizeOf (Tryz.prog.elem 22)).run Tryz.prog W = .ok 1 W := by kernel_rfl
    rw [hsz]
    simp only [Result.andThen, sliced, Int.toNat_natCast]
    by_cases c0 : c - i = 0
    · rw [if_pos c0, if_pos (by omega)]
    · rw [if_neg c0, if_neg (by omega)]
      simp
  · rw [if_neg (by omega), hA (by omega)]
    simp [Addr.add]
set_option maxRecDepth 100000 in
theorem head_q (A : Option Addr) (n c i : Nat) (z : Int) (hz : z = (i : Int)) (hi : i ≤ c) (W : World) : (Instr.sliceAt 22 (.slice A n c) none (some (.int .i64 z)) none).run Tryz.prog W = .ok (.slice A i c) W := by
  subst hz
  rw [run_sliceAt_slice W 22 _ _ _ _ Tryz.underlying22, run_slice_h W 22 A n c Tryz.underlying22 .i64 (i : Int) (by omega) (by omega)]
  have hsz : (sizeOf (Tryz.prog.elem 22)).run Tryz.prog W = .ok 1 W := by kernel_rfl
  rw [hsz]
  simp only [Result.andThen, sliced, Int.toNat_natCast]
  cases A <;> simp [Addr.add]
set_option maxRecDepth 100000 in
theorem head_t (T i n : Nat) (z : Int) (hz : z = (i : Int)) (hi : i ≤ 32) (W : World) : (Instr.sliceAt 73 (.slice (some ⟨T, 0, none⟩) n 32) none (some (.int .i64 z)) none).run Tryz.prog W = .ok (.slice (some ⟨T, 0, none⟩) i 32) W := by
  subst hz
  rw [run_sliceAt_slice W 73 _ _ _ _ Tryz.underlying73, run_slice_h W 73 (some ⟨T, 0, none⟩) n 32 Tryz.underlying73 .i64 (i : Int) (by omega) (by omega)]
  have hsz : (sizeOf (Tryz.prog.elem 73)).run Tryz.prog W = .ok 1 W := by kernel_rfl
  rw [hsz]
  simp only [Result.andThen, sliced, Int.toNat_natCast]
  simp [Addr.add]
theorem zero_row (w : World) : RowK .u32 162 (w.alloc (.cells (madeCells #[.int .u32 0] 32) 162)) w.heap.size (List.replicate 32 0) := by
  rw [made_int]; exact blk_new w _
/-- How far a kernel has come: d numbers are told, those behind them and the bytes behind byte ko are left. -/
structure KO (O n frm L d ko n9 m2 c2 : Nat) (A2 : Option Addr) : Prop where
  hd : d + n9 = n
  hk : frm + d = 8 * ko
  hm : ko + m2 = L
  a2 : At A2 O ko m2
  l2 : m2 ≤ c2
/-- What is left of a list of numbers. -/
structure KV (D d n9 c9 : Nat) (A9 : Option Addr) : Prop where
  a : At A9 D d n9
  l : n9 ≤ c9
theorem cv_cell (op : Nat) (g : Nat → Int) (b : Nat → Bool) (hg : ∀ i, g i = if b i then 1 else 0) (n : Nat) (us : List Int) (hn : n ≤ us.length) (i : Nat) (hi : i < n) : (fillU g n us).getD i 0 = if b i then 1 else 0 := by
  unfold fillU
  rw [List.getD_eq_getElem?_getD, List.getElem?_append_left (by simpa using hi), List.getElem?_map, List.getElem?_range hi, ← hg]
  rfl
def CmpAA (op F : Nat) : Prop := ∀ (A1 A2 : Option Addr) (D1 D2 d1 d2 n1 n2 c1 c2 : Nat) (xs ys : List Int) (T n c : Nat) (us : List Int) (w : World) (h1 : RowK .u64 26 w D1 xs) (hA1 : 0 < n1 → A1 = some ⟨D1, d1, none⟩) (hn1 : d1 + n1 ≤ xs.length) (hl1 : n ≤ n1) (hD1 : D1 ≠ T) (h2 : RowK .u64 26 w D2 ys) (hA2 : 0 < n2 → A2 = some ⟨D2, d2, none⟩) (hn2 : d2 + n2 ≤ ys.length) (hl2 : n ≤ n2) (hD2 : D2 ≠ T) (hT : RowK .u32 162 w T us) (hn : n ≤ us.length) (hm : n ≤ 32),
    Calls Tryz.prog F #[.slice A1 n1 c1, .slice A2 n2 c2, .slice (some ⟨T, 0, none⟩) n c] w fun e w' => e = .returned (.tuple #[]) ∧ RowK .u32 162 w' T (fillU (fun i => cv op (xs.getD (d1 + i) 0) (ys.getD (d2 + i) 0)) n us) ∧ Tn (fun k => k = T) w w'
def CmpAS (op F : Nat) : Prop := ∀ (A1 : Option Addr) (D1 d1 n1 c1 : Nat) (xs : List Int) (y : Int) (T n c : Nat) (us : List Int) (w : World) (h1 : RowK .u64 26 w D1 xs) (hA1 : 0 < n1 → A1 = some ⟨D1, d1, none⟩) (hn1 : d1 + n1 ≤ xs.length) (hl1 : n ≤ n1) (hD1 : D1 ≠ T) (hT : RowK .u32 162 w T us) (hn : n ≤ us.length) (hm : n ≤ 32),
    Calls Tryz.prog F #[.slice A1 n1 c1, .int .u64 y, .slice (some ⟨T, 0, none⟩) n c] w fun e w' => e = .returned (.tuple #[]) ∧ RowK .u32 162 w' T (fillU (fun i => cv op (xs.getD (d1 + i) 0) y) n us) ∧ Tn (fun k => k = T) w w'
def CmpSA (op F : Nat) : Prop := ∀ (x : Int) (A2 : Option Addr) (D2 d2 n2 c2 : Nat) (ys : List Int) (T n c : Nat) (us : List Int) (w : World) (h2 : RowK .u64 26 w D2 ys) (hA2 : 0 < n2 → A2 = some ⟨D2, d2, none⟩) (hn2 : d2 + n2 ≤ ys.length) (hl2 : n ≤ n2) (hD2 : D2 ≠ T) (hT : RowK .u32 162 w T us) (hn : n ≤ us.length) (hm : n ≤ 32),
    Calls Tryz.prog F #[.int .u64 x, .slice A2 n2 c2, .slice (some ⟨T, 0, none⟩) n c] w fun e w' => e = .returned (.tuple #[]) ∧ RowK .u32 162 w' T (fillU (fun i => cv op x (ys.getD (d2 + i) 0)) n us) ∧ Tn (fun k => k = T) w w'
theorem cv_if (op : Nat) (x y : Int) : cv op x y = if cmpB op x y then 1 else 0 := rfl
theorem fillU_at (g : Nat → Int) (n : Nat) (us : List Int) (i : Nat) (hi : i < n) : (fillU g n us).getD i 0 = g i := by
  unfold fillU
  rw [List.getD_eq_getElem?_getD, List.getElem?_append_left (by simpa using hi), List.getElem?_map, List.getElem?_range hi]
  rfl
/-- A state behind a comparison: the first n answers are those of the numbers from place d on. -/
def Cmpd (w w2 : World) (D1 D2 T P F O B co : Nat) (xs ys bs0 : List Int) (b : Nat → Bool) (f d n : Nat) (bs : List Int) : Prop := ∃ us, KS w w2 D1 D2 T P F O B co xs ys bs0 b f d us bs ∧ ∀ i, i < n → us.getD i 0 = if b (d + i) then 1 else 0
section
variable {w w1 : World} {D1 D2 T P F O B co : Nat} {xs ys bs0 : List Int} {f k : Nat} {us bs : List Int} {op : Nat}
theorem KS.cmpAA {b : Nat → Bool} (hb : b = (fun i => cmpB op (xs.getD i 0) (ys.getD i 0))) (hc : CmpAA op F) (h : KS w w1 D1 D2 T P F O B co xs ys bs0 b f k us bs) (d : KD w D1 D2 T P O bs0) (A9 A10 : Option Addr) (n9 c9 n10 c10 n c : Nat) (v9 : At A9 D1 k n9) (v10 : At A10 D2 k n10) (l9 : k + n9 ≤ xs.length) (l10 : k + n10 ≤ ys.length) (hn9 : n ≤ n9) (hn10 : n ≤ n10) (hn : n ≤ 32) :
    Calls Tryz.prog F #[.slice A9 n9 c9, .slice A10 n10 c10, .slice (some ⟨T, 0, none⟩) n c] w1 fun e w2 => e = .returned (.tuple #[]) ∧ Cmpd w w2 D1 D2 T P F O B co xs ys bs0 b f k n bs := by
  subst hb
  refine (hc A9 A10 D1 D2 k k n9 n10 c9 c10 xs ys T n c us w1 h.r1 v9 l9 hn9 d.t1 h.r2 v10 l10 hn10 d.t2 h.rt (by rw [h.ul]; exact hn) hn).mono ?_
  rintro e w2 ⟨rfl, e1, e2⟩
  exact ⟨rfl, _, h.cmp d e1 (by rw [fillU_len _ _ _ (by rw [h.ul]; exact hn)]; exact h.ul) e2, fun i hi => fillU_at _ n us i hi⟩
theorem KS.cmpAS {y : Int} {b : Nat → Bool} (hb : b = (fun i => cmpB op (xs.getD i 0) y)) (hc : CmpAS op F) (h : KS w w1 D1 D2 T P F O B co xs ys bs0 b f k us bs) (d : KD w D1 D2 T P O bs0) (A9 : Option Addr) (n9 c9 n c : Nat) (v9 : At A9 D1 k n9) (l9 : k + n9 ≤ xs.length) (hn9 : n ≤ n9) (hn : n ≤ 32) :
    Calls Tryz.prog F #[.slice A9 n9 c9, .int .u64 y, .slice (some ⟨T, 0, none⟩) n c] w1 fun e w2 => e = .returned (.tuple #[]) ∧ Cmpd w w2 D1 D2 T P F O B co xs ys bs0 b f k n bs := by
  subst hb
  refine (hc A9 D1 k n9 c9 xs y T n c us w1 h.r1 v9 l9 hn9 d.t1 h.rt (by rw [h.ul]; exact hn) hn).mono ?_
  rintro e w2 ⟨rfl, e1, e2⟩
  exact ⟨rfl, _, h.cmp d e1 (by rw [fillU_len _ _ _ (by rw [h.ul]; exact hn)]; exact h.ul) e2, fun i hi => fillU_at _ n us i hi⟩
theorem KS.cmpSA {x : Int} {b : Nat → Bool} (hb : b = (fun i => cmpB op x (ys.getD i 0))) (hc : CmpSA op F) (h : KS w w1 D1 D2 T P F O B co xs ys bs0 b f k us bs) (d : KD w D1 D2 T P O bs0) (A10 : Option Addr) (n10 c10 n c : Nat) (v10 : At A10 D2 k n10) (l10 : k + n10 ≤ ys.length) (hn10 : n ≤ n10) (hn : n ≤ 32) :
    Calls Tryz.prog F #[.int .u64 x, .slice A10 n10 c10, .slice (some ⟨T, 0, none⟩) n c] w1 fun e w2 => e = .returned (.tuple #[]) ∧ Cmpd w w2 D1 D2 T P F O B co xs ys bs0 b f k n bs := by
  subst hb
  refine (hc x A10 D2 k n10 c10 ys T n c us w1 h.r2 v10 l10 hn10 d.t2 h.rt (by rw [h.ul]; exact hn) hn).mono ?_
  rintro e w2 ⟨rfl, e1, e2⟩
  exact ⟨rfl, _, h.cmp d e1 (by rw [fillU_len _ _ _ (by rw [h.ul]; exact hn)]; exact h.ul) e2, fun i hi => fillU_at _ n us i hi⟩
/-- One bit of a byte of what is left. -/
theorem KS.bit {b : Nat → Bool} (h : KS w w1 D1 D2 T P F O B co xs ys bs0 b f k us bs) (d : KD w D1 D2 T P O bs0) (ko m2 c2 i : Nat) (z : Int) (hz : z = (i : Int)) (v : Bool) (hm : ko + m2 = bs0.length) (hi : i / 8 < m2) (hb : i ≤ 10000) (hf : f + k = 8 * ko + i) (hv : v = b k) :
    Calls Tryz.prog 66 #[.slice (some ⟨O, ko, none⟩) m2 c2, .int .i64 z, .bool v] w1 fun e w2 => e = .returned (.tuple #[]) ∧ ∃ bs2, KS w w2 D1 D2 T P F O B co xs ys bs0 b f (k + 1) us bs2 := by
  subst hz
  have hl := h.td.len
  have hn : 0 < bs0.length := by omega
  refine (setBitTo_calls B O ko m2 c2 co i v bs w1 h.ob (by omega) hi hb h.gl).mono ?_
  rintro e w2 ⟨rfl, e1, e2⟩
  exact ⟨rfl, _, h.bits d hn e1 (h.td.bit (ko + i / 8) (i % 8) (by omega) (Nat.mod_lt _ (by omega)) (by omega) v hv) e2⟩
/-- Thirty-two bits, packed. -/
theorem KS.pack {b : Nat → Bool} (h : KS w w1 D1 D2 T P F O B co xs ys bs0 b f k us bs) (d : KD w D1 D2 T P O bs0) (A2 : Option Addr) (ko m2 c2 : Nat) (hA : At A2 O ko m2) (hm : ko + m2 = bs0.length) (h4 : 4 ≤ m2) (hmc : m2 ≤ c2) (hf : f + k = 8 * ko) (hO : O < w1.heap.size) (hu : ∀ i, i < 32 → us.getD i 0 = if b (k + i) then 1 else 0) :
    Calls Tryz.prog 67 #[.agg (us.map (Value.int .u32)).toArray, .slice A2 m2 c2] w1 fun e w2 => e = .returned (.tuple #[]) ∧ KS w w2 D1 D2 T P F O B co xs ys bs0 b f (k + 32) us (packs us ko 4 bs) := by
  have hl := h.td.len
  have hn : 0 < bs0.length := by omega
  refine (packBits_calls us A2 B O ko m2 c2 co bs w1 h.ul (fun x hx => ?_) h.ob hA (by omega) h4 hmc hO).mono ?_
  · obtain ⟨i, hi, rfl⟩ := List.getElem_of_mem hx
    have := hu i (by rw [← h.ul]; exact hi)
    rw [List.getD_eq_getElem?_getD, List.getElem?_eq_getElem hi] at this
    simp only [Option.getD_some] at this
    rw [this]
    by_cases hb : b (k + i) = true
    · rw [if_pos hb]; exact .inr rfl
    · rw [if_neg hb]; exact .inl rfl
  · rintro e w2 ⟨rfl, e1, e2⟩
    exact ⟨rfl, h.bits d hn e1 (h.td.pack us ko hf (by omega) hu) e2⟩
theorem u_ne (u : Int) (b : Bool) (h : u = if b then 1 else 0) : (u != 0) = b := by
  subst h; cases b <;> decide
theorem KS.size {b : Nat → Bool} (h : KS w w1 D1 D2 T P F O B co xs ys bs0 b f k us bs) : w.heap.size ≤ w1.heap.size := h.tn.kept.1
end
end Go.Proofs.YtgccaabpckfhlaaGreatDoor.Q
