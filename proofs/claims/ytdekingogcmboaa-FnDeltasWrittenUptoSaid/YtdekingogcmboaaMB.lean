/- Several texts of ours in one: Fe, Ff, Fg, Fh, Fi. -/
import Derived.Test.YtdekingogcmboaaMA
import Derived.Test.YtdekingogcmboaaPa
/- The writer of bits: its object, a word's bytes, groups of seven bits. -/
namespace Go.Proofs.Ytdekingogcmboaa.Q
open Go.RowKit Go.Proofs.YtdekingogcmboaaW.PrintWords Go.Proofs.YtdekingogcmboaaW.PrintLast Go.Proofs.YtdekingogcmboaaW.PrintMore
set_option linter.unusedVariables false
set_option linter.unusedSimpArgs false
/-- The cells of a writer of bits: where it writes, the bits that wait, the place, how many bits wait, and two rows of bytes. -/
def bwL (i : Value) (buf : Int) (byo bto : Nat) (rs : List Int) : List Value := i :: .int .u64 buf :: .int .i64 (byo : Int) :: .int .u64 (bto : Int) :: rs.map (Value.int .u8)
def Bw (w : World) (W : Nat) (i : Value) (buf : Int) (byo bto : Nat) (rs : List Int) : Prop := w.heap[W]? = some (.cells (bwL i buf byo bto rs).toArray 95 (0, 0)) ∧ rs.length = 18
section
variable {w : World} {W : Nat} {i : Value} {buf : Int} {byo bto : Nat} {rs : List Int}
theorem Bw.lt (h : Bw w W i buf byo bto rs) : W < w.heap.size := blk_lt h.1
theorem Bw.c0 (h : Bw w W i buf byo bto rs) : w.cell? ⟨W, 0, none⟩ = some i := (blk_cell h.1 0).trans (by simp [bwL])
theorem Bw.c1 (h : Bw w W i buf byo bto rs) : w.cell? ⟨W, 1, none⟩ = some (.int .u64 buf) := (blk_cell h.1 1).trans (by simp [bwL])
theorem Bw.c2 (h : Bw w W i buf byo bto rs) : w.cell? ⟨W, 2, none⟩ = some (.int .i64 (byo : Int)) := (blk_cell h.1 2).trans (by simp [bwL])
theorem Bw.c3 (h : Bw w W i buf byo bto rs) : w.cell? ⟨W, 3, none⟩ = some (.int .u64 (bto : Int)) := (blk_cell h.1 3).trans (by simp [bwL])
theorem Bw.cr (h : Bw w W i buf byo bto rs) (j : Nat) (hj : j < 18) : w.cell? ⟨W, 4 + j, none⟩ = some (.int .u8 (rs.getD j 0)) := (blk_cell h.1 (4 + j)).trans (by
  have := h.2
  rw [show 4 + j = j + 1 + 1 + 1 + 1 by omega]
  simp [bwL, List.getD_eq_getElem?_getD]
  rw [List.getElem?_eq_getElem (by omega)]
  rfl)
theorem Bw.f (h : Bw w W i buf byo bto rs) (j : Nat) : w.frozen? ⟨W, j, none⟩ = false := blk_frozen h.1 j
theorem Bw.s1 (h : Bw w W i buf byo bto rs) (v : Int) : Bw (w.setCell ⟨W, 1, none⟩ (.int .u64 v)) W i v byo bto rs := ⟨(blk_set h.1 1 _).trans (by simp [bwL]), h.2⟩
theorem Bw.s2 (h : Bw w W i buf byo bto rs) (v : Nat) : Bw (w.setCell ⟨W, 2, none⟩ (.int .i64 (v : Int))) W i buf v bto rs := ⟨(blk_set h.1 2 _).trans (by simp [bwL]), h.2⟩
theorem Bw.s3 (h : Bw w W i buf byo bto rs) (v : Nat) : Bw (w.setCell ⟨W, 3, none⟩ (.int .u64 (v : Int))) W i buf byo v rs := ⟨(blk_set h.1 3 _).trans (by simp [bwL]), h.2⟩
theorem Bw.sr (h : Bw w W i buf byo bto rs) (j : Nat) (v : Int) : Bw (w.setCell ⟨W, 4 + j, none⟩ (.int .u8 v)) W i buf byo bto (rs.set j v) := ⟨(blk_set h.1 (4 + j) _).trans (by
  rw [show 4 + j = j + 1 + 1 + 1 + 1 by omega]
  simp [bwL, List.map_set]), by rw [List.length_set]; exact h.2⟩
theorem Bw.alloc (h : Bw w W i buf byo bto rs) (o : Obj) : Bw (w.alloc o) W i buf byo bto rs := ⟨blk_alloc h.1 o, h.2⟩
theorem Bw.drew (h : Bw w W i buf byo bto rs) : Bw w.drew W i buf byo bto rs := h
theorem Bw.kept {w' : World} {S : Nat → Prop} (h : Bw w W i buf byo bto rs) (k : Kept w w' S) (hn : ¬ S W) : Bw w' W i buf byo bto rs := ⟨(k.2 W h.lt hn).trans h.1, h.2⟩
end
/-- Bytes, the lowest first. -/
theorem toB8 (x : Nat) : toB 8 x = [((x % 256 : Nat) : Int), ((x / 256 % 256 : Nat) : Int), ((x / 65536 % 256 : Nat) : Int), ((x / 16777216 % 256 : Nat) : Int), ((x / 4294967296 % 256 : Nat) : Int), ((x / 1099511627776 % 256 : Nat) : Int), ((x / 281474976710656 % 256 : Nat) : Int), ((x / 72057594037927936 % 256 : Nat) : Int)] := by
  simp [toB, Nat.div_div_eq_div_mul]
theorem set8 (rs : List Int) (h : rs.length = 18) (a b c d e f g k : Int) : ((((((((rs.set 0 a).set 1 b).set 2 c).set 3 d).set 4 e).set 5 f).set 6 g).set 7 k) = [a, b, c, d, e, f, g, k] ++ rs.drop 8 := by
  match rs, h with
  | x0 :: x1 :: x2 :: x3 :: x4 :: x5 :: x6 :: x7 :: r, _ => simp
set_option maxHeartbeats 4000000 in
set_option maxRecDepth 100000 in
theorem put64_calls (W : Nat) (i : Value) (buf : Int) (byo bto : Nat) (rs : List Int) (c : Nat) (x : Nat) (w : World) (h : Bw w W i buf byo bto rs) (hx : x < 18446744073709551616) :
    Calls Try.prog 47 #[.agg #[], .slice (some ⟨W, 4, none⟩) 8 c, .int .u64 (x : Int)] w fun e w' => e = .returned (.tuple #[]) ∧ Bw w' W i buf byo bto (toB 8 x ++ rs.drop 8) ∧ Kept w w' (fun k => k = W) ∧ Below W w w' := by
  have hX := h.lt
  have H := Aside0.mk h
  have c0 : w.cell? ⟨W, 4, none⟩ = _ := h.cr 0 (by omega)
  have c1 : w.cell? ⟨W, 5, none⟩ = _ := h.cr 1 (by omega)
  have c2 : w.cell? ⟨W, 6, none⟩ = _ := h.cr 2 (by omega)
  have c3 : w.cell? ⟨W, 7, none⟩ = _ := h.cr 3 (by omega)
  have c4 : w.cell? ⟨W, 8, none⟩ = _ := h.cr 4 (by omega)
  have c5 : w.cell? ⟨W, 9, none⟩ = _ := h.cr 5 (by omega)
  have c6 : w.cell? ⟨W, 10, none⟩ = _ := h.cr 6 (by omega)
  have c7 : w.cell? ⟨W, 11, none⟩ = _ := h.cr 7 (by omega)
  have z0 := h.f 4
  have z1 := h.f 5
  have z2 := h.f 6
  have z3 := h.f 7
  have z4 := h.f 8
  have z5 := h.f 9
  have z6 := h.f 10
  have z7 := h.f 11
  have g0 : (0 : Int) ≤ (x : Int) := by omega
  have g1 : (x : Int) < 18446744073709551616 := by omega
  clear h hx
  go_enter Try.func47, Try.ntmps47
  go_wp2
  go_end0
  refine ⟨rfl, ?_, ?_, ?_⟩
  · have := ((((((((H.out.sr 0 ((x : Int) % 256)).sr 1 ((x : Int) / 256 % 256)).sr 2 ((x : Int) / 65536 % 256)).sr 3 ((x : Int) / 16777216 % 256)).sr 4 ((x : Int) / 4294967296 % 256)).sr 5 ((x : Int) / 1099511627776 % 256)).sr 6 ((x : Int) / 281474976710656 % 256)).sr 7 ((x : Int) / 72057594037927936)).alloc (.cells #[] 103)
    rw [set8 rs H.out.2] at this
    have e : toB 8 x = [(x : Int) % 256, (x : Int) / 256 % 256, (x : Int) / 65536 % 256, (x : Int) / 16777216 % 256, (x : Int) / 4294967296 % 256, (x : Int) / 1099511627776 % 256, (x : Int) / 281474976710656 % 256, (x : Int) / 72057594037927936] := by
      rw [toB8]
      simp only [Int.natCast_emod, Int.natCast_ediv, Int.cast_ofNat_Int]
      have : (x : Int) / 72057594037927936 % 256 = (x : Int) / 72057594037927936 := by omega
      rw [this]
    rw [e]
    exact this
  · exact (((((((((Kept.refl w (fun k => k = W)).setCell (.inl rfl) _).setCell (.inl rfl) _).setCell (.inl rfl) _).setCell (.inl rfl) _).setCell (.inl rfl) _).setCell (.inl rfl) _).setCell (.inl rfl) _).setCell (.inl rfl) _).alloc _
  · refine (Below.setCell (p := ⟨W, 11, none⟩) (Below.setCell (p := ⟨W, 10, none⟩) (Below.setCell (p := ⟨W, 9, none⟩) (Below.setCell (p := ⟨W, 8, none⟩) (Below.setCell (p := ⟨W, 7, none⟩) (Below.setCell (p := ⟨W, 6, none⟩) (Below.setCell (p := ⟨W, 5, none⟩) (Below.setCell (p := ⟨W, 4, none⟩) (Below.refl _ _) (Nat.le_refl _) _) (Nat.le_refl _) _) (Nat.le_refl _) _) (Nat.le_refl _) _) (Nat.le_refl _) _) (Nat.le_refl _) _) (Nat.le_refl _) _) (Nat.le_refl _) _).trans ((below_alloc (Below.refl _ _) _).mono ?_)
    simp; omega
end Go.Proofs.Ytdekingogcmboaa.Q

/- The writer of bits: groups of seven bits, its stream, what waits written out. -/
namespace Go.Proofs.Ytdekingogcmboaa.Q
open Go.RowKit Go.Proofs.YtdekingogcmboaaW.PrintWords Go.Proofs.YtdekingogcmboaaW.PrintLast Go.Proofs.YtdekingogcmboaaW.PrintMore
set_option linter.unusedVariables false
set_option linter.unusedSimpArgs false
set_option maxHeartbeats 1000000 in
set_option maxRecDepth 100000 in
theorem bfb_calls (n : Nat) (h : n ≤ 1000) (w : World) : Calls Try.prog 46 #[.int .i64 (n : Int)] w fun e w' => e = .returned (.int .i64 (((n + 7) / 8 : Nat) : Int)) ∧ w' = w := by
  have h1 : IntKind.i64.wrap ((n : Int) + 7) = (n : Int) + 7 := by rw [IntKind.wrap_i64]; omega
  have h2 : ((n : Int) + 7) / 8 = (((n + 7) / 8 : Nat) : Int) := by omega
  have H2 := Aside0.mk h2
  clear h2
  go_enter Try.func46, Try.ntmps46
  go_wp2
  go_ret
  refine ⟨?_, rfl⟩
  show Ending.returned (Value.int .i64 (((n : Int) + 7) / 8)) = _
  rw [H2.out]
theorem or128 (x : Nat) : bits .or .u8 ((x : Int) % 256) 128 = ((x % 128 + 128 : Nat) : Int) := by
  have h : ∀ y : Fin 256, bits .or .u8 ((y.val : Nat) : Int) 128 = ((y.val % 128 + 128 : Nat) : Int) := by decide +kernel
  have e := h ⟨x % 256, by omega⟩
  rw [show (x : Int) % 256 = ((x % 256 : Nat) : Int) by omega, e]
  show ((x % 256 % 128 + 128 : Nat) : Int) = ((x % 128 + 128 : Nat) : Int)
  omega
/-- The second row of a writer, as it stands while groups are put. -/
structure Groups (rs rs' : List Int) (pre : List Int) : Prop where
  len : rs'.length = 18
  fst : rs'.take 8 = rs.take 8
  snd : (rs'.drop 8).take pre.length = pre
theorem Groups.put {rs rs' pre : List Int} (h : Groups rs rs' pre) (hp : pre.length < 10) (v : Int) : Groups rs (rs'.set (8 + pre.length) v) (pre ++ [v]) := by
  obtain ⟨h1, h2, h3⟩ := h
  refine ⟨by simpa using h1, ?_, ?_⟩
  · rw [List.take_set_of_le (by omega)]; exact h2
  · have e : (rs'.set (8 + pre.length) v).drop 8 = (rs'.drop 8).set pre.length v := by rw [List.drop_set, if_neg (by omega)]; congr 1; omega
    rw [e, List.length_append, List.length_singleton]
    have hd : pre.length < (rs'.drop 8).length := by simp; omega
    generalize rs'.drop 8 = t at h3 hd
    rw [List.take_succ_eq_append_getElem (by simpa using hd), List.take_set_of_le (Nat.le_refl _), h3]
    simp
set_option maxHeartbeats 4000000 in
set_option maxRecDepth 100000 in
theorem putuv_calls (W : Nat) (i : Value) (buf : Int) (byo bto : Nat) (rs : List Int) (n : Nat) (w : World) (h : Bw w W i buf byo bto rs) (hn : n < 18446744073709551616) :
    Calls Try.prog 48 #[.slice (some ⟨W, 12, none⟩) 10 10, .int .u64 (n : Int)] w fun e w' => e = .returned (.int .i64 ((leb n).length : Int)) ∧ (∃ rs', Bw w' W i buf byo bto rs' ∧ (rs'.drop 8).take (leb n).length = leb n) ∧ Kept w w' (fun k => k = W) ∧ Below W w w' := by
  have HL := Aside0.mk (leb_len 10 n (by omega) (by omega)).2
  have H := Aside0.mk h
  have HN := Aside0.mk hn
  clear h hn
  go_enter Try.func48, Try.ntmps48
  go_wp2
  go_loopg [1, 5] 11 (fun kq v1 v5 w' => ∃ (x : Nat) (pre rs' : List Int), v1 = .int .u64 (x : Int) ∧ v5 = .int .i64 (pre.length : Int) ∧ Aside0 (pre.length + kq = 11) ∧ Aside0 (leb n = pre ++ leb x ∧ x ≤ n) ∧ Aside0 (Groups rs rs' pre ∧ Bw w' W i buf byo bto rs') ∧ Aside0 (Kept w w' (fun k => k = W)) ∧ Aside0 (Below W w w'))
  case atStart => exact ⟨n, [], rs, rfl, rfl, ⟨rfl⟩, ⟨by simp⟩, ⟨⟨H.out.2, rfl, rfl⟩, H.out⟩, ⟨Kept.refl _ _⟩, ⟨Below.refl _ _⟩⟩
  case round =>
    obtain ⟨x, pre, rs', rfl, rfl, HK, HX, HG, HE, HB⟩ := hrel
    have hp : pre.length < 10 := by
      have h1 := congrArg List.length HX.out.1
      have h2 := (leb_len 10 x (by have := HX.out.2; have := HN.out; omega) (by omega)).1
      have h3 := HL.out
      rw [List.length_append] at h1
      omega
    cases gk with
    | zero => exact absurd HK.out (by omega)
    | succ k1 =>
      have hg0 : (0 : Int) ≤ (pre.length : Int) := by omega
      have hg1 : (pre.length : Int) < 10 := by omega
      have hcell : wr.cell? ⟨W, 12 + pre.length, none⟩ = some (.int .u8 (rs'.getD (8 + pre.length) 0)) := by
        have := HG.out.2.cr (8 + pre.length) (by omega)
        rw [show 4 + (8 + pre.length) = 12 + pre.length by omega] at this
        exact this
      have hfz := HG.out.2.f (12 + pre.length)
      have hset : ∀ v, Bw (wr.setCell ⟨W, 12 + pre.length, none⟩ (.int .u8 v)) W i buf byo bto (rs'.set (8 + pre.length) v) := fun v => by
        have := HG.out.2.sr (8 + pre.length) v
        rw [show 4 + (8 + pre.length) = 12 + pre.length by omega] at this
        exact this
      have HS := Aside0.mk hset
      clear hset
      have hxb : x < 18446744073709551616 := by have := HX.out.2; have := HN.out; omega
      by_cases c : 128 ≤ x
      · have hd : decide ((x : Int) ≥ 128) = true := decide_eq_true (by omega)
        have hw1 : IntKind.i64.wrap ((pre.length : Int) + 1) = ((pre.length + 1 : Nat) : Int) := by rw [IntKind.wrap_i64]; omega
        have hx8 : IntKind.u8.wrap (x : Int) = (x : Int) % 256 := by simp [IntKind.wrap, IntKind.bits, IntKind.signed]
        have ho := or128 x
        clear hxb
        go_wp2
        go_roundg k1
        case measure => have := HK.out; omega
        case rel =>
          have hx7 : (x : Int) / 128 = ((x / 128 : Nat) : Int) := by omega
          refine ⟨x / 128, pre ++ [((x % 128 + 128 : Nat) : Int)], rs'.set (8 + pre.length) ((x % 128 + 128 : Nat) : Int), by rw [hx7], by simp, ⟨by have := HK.out; simp; omega⟩, ⟨?_, ?_⟩, ⟨HG.out.1.put hp _, HS.out _⟩, ⟨HE.out.setCell (.inl rfl) _⟩, ⟨Below.setCell (p := ⟨W, 12 + pre.length, none⟩) HB.out (Nat.le_refl _) _⟩⟩
          · rw [HX.out.1, leb_hi x (by omega)]; simp
          · have := HX.out.2; omega
      · have hd : decide ((x : Int) ≥ 128) = false := decide_eq_false (by omega)
        have hw1 : IntKind.i64.wrap ((pre.length : Int) + 1) = ((pre.length + 1 : Nat) : Int) := by rw [IntKind.wrap_i64]; omega
        have hx8 : IntKind.u8.wrap (x : Int) = (x : Int) := by simp [IntKind.wrap, IntKind.bits, IntKind.signed]; omega
        have hx9 : (x : Int) % 256 = (x : Int) := by omega
        have CC := Aside0.mk c
        clear hxb c
        go_wp2
        go_ret
        have e : leb n = pre ++ [(x : Int)] := by rw [HX.out.1, leb_lo x (by have := CC.out; omega)]
        have hl : (leb n).length = pre.length + 1 := by rw [e]; simp
        refine ⟨by rw [hl]; rfl, ⟨_, HS.out _, ?_⟩, HE.out.setCell (.inl rfl) _, Below.setCell (p := ⟨W, 12 + pre.length, none⟩) HB.out (Nat.le_refl _) _⟩
        have := (HG.out.1.put hp (x : Int)).snd
        rw [hl, e]
        simpa using this
end Go.Proofs.Ytdekingogcmboaa.Q

/- The writer of bits: its stream; what waits written out. -/
namespace Go.Proofs.Ytdekingogcmboaa.Q
open Go.RowKit Go.Proofs.YtdekingogcmboaaW.PrintWords Go.Proofs.YtdekingogcmboaaW.PrintLast Go.Proofs.YtdekingogcmboaaW.PrintMore
set_option linter.unusedVariables false
set_option linter.unusedSimpArgs false
theorem splice_end (done cs : List Int) (k k2 : Nat) (h : cs.length ≤ k + k2) : ((done ++ List.replicate k 0) ++ List.replicate k2 0).take done.length ++ cs ++ ((done ++ List.replicate k 0) ++ List.replicate k2 0).drop (done.length + cs.length) = (done ++ cs) ++ List.replicate (k + k2 - cs.length) 0 := by
  rw [List.append_assoc done, List.replicate_append_replicate, List.take_left, List.drop_append]
  simp
theorem splice_in (done : List Int) (b : Int) (off k k2 : Nat) (h : off < done.length) : ((done ++ List.replicate k 0) ++ List.replicate k2 0).take off ++ [b] ++ ((done ++ List.replicate k 0) ++ List.replicate k2 0).drop (off + 1) = done.set off b ++ List.replicate (k + k2) 0 := by
  rw [List.append_assoc done, List.replicate_append_replicate, List.take_append_of_le_length (by omega), List.drop_append_of_le_length (by omega), List.set_eq_take_append_cons_drop, if_pos h]
  simp
/-- The stream of a writer of bits: its object, its sink, the bytes that are there. -/
def Bs (w : World) (lo W S : Nat) (done : List Int) (byo buf bto : Nat) (rs : List Int) : Prop :=
  ∃ B D k q G, Bw w W (.iface 68 (.pointer (some ⟨S, 0, none⟩))) (buf : Int) byo bto rs ∧ Snk w S B D (done ++ List.replicate k 0) 0 ((q : Nat) : Int) G ∧ lo ≤ W ∧ lo ≤ S ∧ lo ≤ B ∧ lo ≤ D
/-- What stays: all below a place, and all blocks that are no part of a stream. -/
structure Fr (lo : Nat) (w w' : World) : Prop where
  below : Below lo w w'
  keep : ∀ (g : Nat) (t : TypeId) (cs : Array Value), w.heap[g]? = some (.cells cs t (0, 0)) → t ≠ 95 → t ≠ 110 → t ≠ 117 → t ≠ 5 → w'.heap[g]? = some (.cells cs t (0, 0))
theorem Fr.refl (lo : Nat) (w : World) : Fr lo w w := ⟨Below.refl _ _, fun _ _ _ h _ _ _ _ => h⟩
theorem Fr.trans {lo : Nat} {w w1 w2 : World} (h : Fr lo w w1) (k : Fr lo w1 w2) : Fr lo w w2 := ⟨h.below.trans k.below, fun g t cs e a b c d => k.keep g t cs (h.keep g t cs e a b c d) a b c d⟩
theorem Fr.of_kept {lo : Nat} {w w' : World} {P : Nat → Prop} (hb : Below lo w w') (hk : Kept w w' P) (hp : ∀ (g : Nat) (t : TypeId) (cs : Array Value), w.heap[g]? = some (.cells cs t (0, 0)) → t ≠ 95 → t ≠ 110 → t ≠ 117 → t ≠ 5 → ¬ P g) : Fr lo w w' :=
  ⟨hb, fun g t cs e a b c d => (hk.2 g (blk_lt e) (hp g t cs e a b c d)).trans e⟩
theorem Fr.of_bw {lo : Nat} {w w' : World} {W : Nat} {i : Value} {buf : Int} {byo bto : Nat} {rs : List Int} (h : Bw w W i buf byo bto rs) (hl : lo ≤ W) (hb : Below W w w') (hk : Kept w w' (fun k => k = W)) : Fr lo w w' :=
  Fr.of_kept (hb.mono hl) hk (fun g t cs e a _ _ _ hg => blk_ne e h.1 a hg)
theorem Fr.set {lo : Nat} {w : World} {W : Nat} {i : Value} {buf : Int} {byo bto : Nat} {rs : List Int} (h : Bw w W i buf byo bto rs) (hl : lo ≤ W) (j : Nat) (v : Value) : Fr lo w (w.setCell ⟨W, j, none⟩ v) :=
  Fr.of_bw h hl (Below.setCell (p := ⟨W, j, none⟩) (Below.refl _ _) (Nat.le_refl _) _) ((Kept.refl w (fun k => k = W)).setCell (.inl rfl) _)
theorem Fr.drew {lo : Nat} {w w' : World} (h : Fr lo w.drew w') : Fr lo w w' := ⟨(below_drew (Below.refl _ _)).trans h.below, h.keep⟩
theorem Fr.drewN {lo : Nat} {w w' : World} (n : Nat) (h : Fr lo (w.drewN n) w') : Fr lo w w' := ⟨(pw_below_drewN (Below.refl _ _) n).trans h.below, h.keep⟩
section
variable {w : World} {lo W S : Nat} {done : List Int} {byo buf bto : Nat} {rs : List Int}
theorem Bs.bw (h : Bs w lo W S done byo buf bto rs) : Bw w W (.iface 68 (.pointer (some ⟨S, 0, none⟩))) (buf : Int) byo bto rs := by obtain ⟨_, _, _, _, _, h, _⟩ := h; exact h
theorem Bs.low (h : Bs w lo W S done byo buf bto rs) : lo ≤ W := by obtain ⟨_, _, _, _, _, _, _, h, _⟩ := h; exact h
theorem Bs.drew (h : Bs w lo W S done byo buf bto rs) : Bs w.drew lo W S done byo buf bto rs := by
  obtain ⟨B, D, k, q, G, h1, h2, h3⟩ := h
  exact ⟨B, D, k, q, G, h1, ⟨h2.s, h2.b, h2.le, h2.lo, h2.hi⟩, h3⟩
theorem Bs.drewN (h : Bs w lo W S done byo buf bto rs) (n : Nat) : Bs (w.drewN n) lo W S done byo buf bto rs := by
  obtain ⟨B, D, k, q, G, h1, h2, h3⟩ := h
  exact ⟨B, D, k, q, G, h1, ⟨h2.s, h2.b, h2.le, h2.lo, h2.hi⟩, h3⟩
/-- The object changes, its sink does not. -/
theorem Bs.kept {w' : World} {byo' buf' bto' : Nat} {rs' : List Int} (h : Bs w lo W S done byo buf bto rs) (hk : Kept w w' (fun k => k = W)) (hb : Bw w' W (.iface 68 (.pointer (some ⟨S, 0, none⟩))) (buf' : Int) byo' bto' rs') : Bs w' lo W S done byo' buf' bto' rs' := by
  obtain ⟨B, D, k, q, G, h1, h2, h3⟩ := h
  have a1 := blk_ne h2.s h1.1 (by decide)
  have a2 := blk_ne h2.b.1 h1.1 (by decide)
  have a3 := blk_ne h2.b.2 h1.1 (by decide)
  exact ⟨B, D, k, q, G, hb, ⟨(hk.2 S (blk_lt h2.s) a1).trans h2.s, ⟨(hk.2 B (blk_lt h2.b.1) a2).trans h2.b.1, (hk.2 D (blk_lt h2.b.2) a3).trans h2.b.2⟩, h2.le, h2.lo, h2.hi⟩, h3⟩
theorem Bs.s1 (h : Bs w lo W S done byo buf bto rs) (v : Nat) : Bs (w.setCell ⟨W, 1, none⟩ (.int .u64 (v : Int))) lo W S done byo v bto rs := h.kept ((Kept.refl w (fun k => k = W)).setCell (.inl rfl) _) (h.bw.s1 _)
theorem Bs.s2 (h : Bs w lo W S done byo buf bto rs) (v : Nat) : Bs (w.setCell ⟨W, 2, none⟩ (.int .i64 (v : Int))) lo W S done v buf bto rs := h.kept ((Kept.refl w (fun k => k = W)).setCell (.inl rfl) _) (h.bw.s2 _)
theorem Bs.s3 (h : Bs w lo W S done byo buf bto rs) (v : Nat) : Bs (w.setCell ⟨W, 3, none⟩ (.int .u64 (v : Int))) lo W S done byo buf v rs := h.kept ((Kept.refl w (fun k => k = W)).setCell (.inl rfl) _) (h.bw.s3 _)
end
/-- A write at a place of the stream. -/
def Put (w w' : World) (lo W S : Nat) (done : List Int) (byo buf bto : Nat) (rs : List Int) (off : Nat) (cs : List Int) : Prop :=
  (off = done.length → Bs w' lo W S (done ++ cs) byo buf bto rs) ∧ (∀ b, off < done.length → cs = [b] → Bs w' lo W S (done.set off b) byo buf bto rs) ∧ Fr lo w w'
theorem bs_wat {w : World} {lo W S : Nat} {done : List Int} {byo buf bto : Nat} {rs : List Int} (h : Bs w lo W S done byo buf bto rs) (a : Addr) (c : Nat) (cs : List Int) (off : Nat) (h0 : 0 < cs.length) (hb : off + cs.length ≤ 4000000)
    (hs : ∀ W', (∀ (g : Nat) (t : TypeId) (cells : Array Value), w.heap[g]? = some (.cells cells t (0, 0)) → t ≠ 117 → W'.heap[g]? = some (.cells cells t (0, 0))) → Src W' a cs) :
    Calls Try.prog 99 #[.pointer (some ⟨S, 0, none⟩), .slice (some a) cs.length c, .int .i64 (off : Int)] w fun e w' => (∃ n, e = .returned (.tuple #[.int .i64 n, .nilIface])) ∧ Put w w' lo W S done byo buf bto rs off cs := by
  obtain ⟨B, D, k, q, G, h1, h2, l1, l2, l3, l4⟩ := h
  refine (wat_calls S B D _ q G a c cs off w h2 h0 hb (fun W' hk => hs W' (fun g t cells e ht => (hk.2 g (blk_lt e) (fun hg => blk_ne e h2.b.1 ht hg)).trans e))).mono ?_
  rintro e w' ⟨he, D', q', k', f1, f2, f3, f4, f5⟩
  have hW : ¬ (W = B ∨ W = D) := fun hg => hg.elim (blk_ne h1.1 h2.b.1 (by decide)) (blk_ne h1.1 h2.b.2 (by decide))
  have hw := h1.kept f4 hW
  have hl : lo ≤ D' := by rcases f3 with rfl | f; exact l4; have := h1.lt; omega
  refine ⟨he, fun ho => ?_, fun b ho hc => ?_, Fr.of_kept (f5.mono (by omega)) f4 (fun g t cs e a b c d hg => hg.elim (blk_ne e h2.b.1 c) (blk_ne e h2.b.2 d))⟩
  · subst ho
    rw [splice_end done cs k k' (by simp at f2; omega)] at f1
    exact ⟨B, D', _, q', G, hw, f1, l1, l2, l3, hl⟩
  · subst hc
    rw [show off + [b].length = off + 1 from rfl, splice_in done b off k k' ho] at f1
    exact ⟨B, D', _, q', G, hw, f1, l1, l2, l3, hl⟩
theorem src_raw {w : World} {W : Nat} {i : Value} {buf : Int} {byo bto x : Nat} {t : List Int} (h : Bw w W i buf byo bto (toB 8 x ++ t)) (n : Nat) (hn : n ≤ 8) : Src w ⟨W, 4, none⟩ (toB n x) := by
  intro j hj
  rw [toB_len] at hj
  have e : (⟨W, 4, none⟩ : Addr).add j = ⟨W, 4 + j, none⟩ := by simp [Addr.add]
  rw [e, h.cr j (by omega)]
  have : (toB 8 x ++ t).getD j 0 = (toB n x).getD j 0 := by
    rw [toB_at n x j hj, List.getD_eq_getElem?_getD, List.getElem?_append_left (by rw [toB_len]; omega), ← List.getD_eq_getElem?_getD, toB_at 8 x j (by omega)]
  rw [this]
theorem src_buf {w : World} {W : Nat} {i : Value} {buf : Int} {byo bto : Nat} {rs cs : List Int} (h : Bw w W i buf byo bto rs) (hc : (rs.drop 8).take cs.length = cs) (hn : cs.length ≤ 10) : Src w ⟨W, 12, none⟩ cs := by
  intro j hj
  have e : (⟨W, 12, none⟩ : Addr).add j = ⟨W, 4 + (8 + j), none⟩ := by
    rw [show 4 + (8 + j) = 12 + j by omega]
    simp [Addr.add]
  rw [e, h.cr (8 + j) (by omega)]
  have : cs.getD j 0 = rs.getD (8 + j) 0 := by
    conv => lhs; rw [← hc]
    simp only [List.getD_eq_getElem?_getD]
    rw [List.getElem?_take_of_lt hj, List.getElem?_drop]
  rw [this]
set_option maxRecDepth 100000 in
theorem slice_raw (W n : Nat) (hn : n ≤ 8) (w : World) : (Instr.sliceAt 92 (.pointer (some ⟨W, 4, none⟩)) none (some (.int .i64 (n : Int))) none).run Try.prog w = .ok (.slice (some ⟨W, 4, none⟩) n 8) w := by
  have ha : Try.prog.arrayLen 92 = 8 := by kernel_rfl
  rw [run_sliceAt_array_h w 92 ⟨W, 4, none⟩ (by kernel_rfl) .i64 (n : Int) (by omega) (by rw [ha]; omega)]
  have hsz : (sizeOf (Try.prog.elem 92)).run Try.prog w = .ok 1 w := by kernel_rfl
  rw [hsz, ha]
  simp only [Result.andThen, slicedAt, Int.toNat_natCast]
  simp [Addr.add]
set_option maxRecDepth 100000 in
theorem slice_buf (W n : Nat) (hn : n ≤ 10) (w : World) : (Instr.sliceAt 93 (.pointer (some ⟨W, 12, none⟩)) none (some (.int .i64 (n : Int))) none).run Try.prog w = .ok (.slice (some ⟨W, 12, none⟩) n 10) w := by
  have ha : Try.prog.arrayLen 93 = 10 := by kernel_rfl
  rw [run_sliceAt_array_h w 93 ⟨W, 12, none⟩ (by kernel_rfl) .i64 (n : Int) (by omega) (by rw [ha]; omega)]
  have hsz : (sizeOf (Try.prog.elem 93)).run Try.prog w = .ok 1 w := by kernel_rfl
  rw [hsz, ha]
  simp only [Result.andThen, slicedAt, Int.toNat_natCast]
  simp [Addr.add]
set_option maxHeartbeats 4000000 in
set_option maxRecDepth 100000 in
theorem flush_calls {w : World} {lo W S : Nat} {done : List Int} {buf bto : Nat} {rs : List Int} (h : Bs w lo W S done done.length buf bto rs) (hb : buf < 18446744073709551616) (ht : bto < 64) (hl : done.length ≤ 3000000) :
    Calls Try.prog 31 #[.pointer (some ⟨W, 0, none⟩), .bool true] w fun e w' => e = .returned (.tuple #[]) ∧ (∃ rs', Bs w' lo W S (done ++ toB ((bto + 7) / 8) buf) (done.length + (bto + 7) / 8) 0 0 rs') ∧ Fr lo w w' := by
  by_cases c : bto = 0
  · subst c
    have d1 := h.s1 0
    have d2 := d1.s2 done.length
    have d3 := d2.s3 0
    have e1 := (Fr.set h.bw h.low 1 (.int .u64 0)).trans ((Fr.set d1.bw d1.low 2 (.int .i64 (done.length : Int))).trans (Fr.set d2.bw d2.low 3 (.int .u64 0)))
    have r3 : w.cell? ⟨W, 3, none⟩ = some (.int .u64 0) := h.bw.c3
    have r2 := h.bw.c2
    have r1 := h.bw.c1
    have z1 := h.bw.f 1
    have z2 := h.bw.f 2
    have z3 := h.bw.f 3
    have D3 := Aside0.mk d3
    have E1 := Aside0.mk e1
    clear h d1 d2 d3 e1
    go_enter Try.func31, Try.ntmps31
    go_wp2
    go_end0
    refine ⟨rfl, ⟨rs, ?_⟩, E1.out⟩
    simpa [toB] using D3.out
  · have hd : decide ((bto : Int) > 0) = true := decide_eq_true (by omega)
    have r3 := h.bw.c3
    have r2 := h.bw.c2
    have r1 := h.bw.c1
    have r0 := h.bw.c0
    have HB := Aside0.mk (bfb_calls bto (by omega) w)
    have hn : 0 < (bto + 7) / 8 ∧ (bto + 7) / 8 ≤ 8 := by omega
    generalize (bto + 7) / 8 = n at HB hn ⊢
    have HP := Aside0.mk (put64_calls W _ _ _ _ rs 8 buf w.drew h.bw.drew hb)
    have H := Aside0.mk h
    have HN := Aside0.mk hn
    have hsl := slice_raw W n hn.2
    clear h hn
    go_enter Try.func31, Try.ntmps31
    go_wp2_with (first | (go_at_call 46; refine HB.out.mono ?_; rintro e w1 ⟨rfl, hw1⟩; subst w1))
    go_still_tail 9, (by kernel_rfl)
    change wpList _ _ _ _ _ w.drew
    go_wp2_with (first | (go_at_call 47; refine HP.out.mono ?_; rintro e w1 ⟨rfl, e1, e2, e3⟩; have E := Aside0.mk (And.intro e1 (And.intro e2 e3)); clear e1 e2 e3))
    obtain ⟨e1, e2, e3⟩ := E.out
    clear r0 r1 r2 r3
    have r0 := e1.c0
    have r2 := e1.c2
    have hbs : Bs w1 lo W S done done.length buf bto (toB 8 buf ++ rs.drop 8) := H.out.kept ⟨e2.1, e2.2⟩ e1
    have hfr1 : Fr lo w w1 := Fr.of_bw H.out.bw H.out.low ((below_drew (Below.refl _ _)).trans e3) ⟨e2.1, e2.2⟩
    have hW := bs_wat hbs.drew ⟨W, 4, none⟩ 8 (toB n buf) done.length (by rw [toB_len]; exact HN.out.1) (by rw [toB_len]; have := HN.out.2; omega) (fun W' hk => src_raw (w := W') (t := rs.drop 8) ⟨hk W 95 _ e1.1 (by decide), e1.2⟩ n HN.out.2)
    rw [toB_len] at hW
    have HW := Aside0.mk hW
    have FR := Aside0.mk hfr1
    clear hW hbs hfr1 e1 e2 e3 E HP
    go_wp2
    go_still_tail 15, (by kernel_rfl)
    change wpList _ _ _ _ _ w1.drew
    go_wp2_with (first | (go_at_call 99; refine HW.out.mono ?_; rintro e w2 ⟨⟨m, rfl⟩, p1, p2, p3⟩; have hb2 := p1 rfl; have fr2 := FR.out.trans (Fr.drew p3); have q0 := hb2.bw.c3; have q1 := hb2.bw.c1; have q2 := hb2.bw.c2; have z1 := hb2.bw.f 1; have z2 := hb2.bw.f 2; have z3 := hb2.bw.f 3; have B2 := Aside0.mk hb2; have F2 := Aside0.mk fr2; clear hb2 fr2 p1 p2 p3))
    go_end0
    have d1 := B2.out.s1 0
    have d2 := d1.s2 (done.length + n)
    have d3 := d2.s3 0
    have e1 := (Fr.set B2.out.bw B2.out.low 1 (.int .u64 0)).trans ((Fr.set d1.bw d1.low 2 (.int .i64 ((done.length + n : Nat) : Int))).trans (Fr.set d2.bw d2.low 3 (.int .u64 0)))
    have hw : wrap64 ((done.length : Int) + (n : Int)) = ((done.length + n : Nat) : Int) := by have := HN.out.2; unfold wrap64; omega
    rw [hw]
    exact ⟨rfl, ⟨_, d3⟩, F2.out.trans e1⟩
end Go.Proofs.Ytdekingogcmboaa.Q

/- The writer of bits: numbers in groups of seven bits, bytes left out, values. -/
namespace Go.Proofs.Ytdekingogcmboaa.Q
open Go.RowKit Go.Proofs.YtdekingogcmboaaW.PrintWords Go.Proofs.YtdekingogcmboaaW.PrintLast Go.Proofs.YtdekingogcmboaaW.PrintMore
set_option linter.unusedVariables false
set_option linter.unusedSimpArgs false
/-- The bytes of a stream, with those that wait. -/
def full (done : List Int) (buf bto : Nat) : List Int := done ++ toB ((bto + 7) / 8) buf
theorem full_len (done : List Int) (buf bto : Nat) : (full done buf bto).length = done.length + (bto + 7) / 8 := by simp [full, toB_len]
set_option maxHeartbeats 4000000 in
set_option maxRecDepth 100000 in
theorem vlq_calls {w : World} {lo W S : Nat} {done : List Int} {buf bto : Nat} {rs : List Int} (n : Nat) (h : Bs w lo W S done done.length buf bto rs) (hb : buf < 18446744073709551616) (ht : bto < 64) (hl : done.length ≤ 2000000) (hn : n < 18446744073709551616) :
    Calls Try.prog 33 #[.pointer (some ⟨W, 0, none⟩), .int .u64 (n : Int)] w fun e w' => e = .returned (.bool true) ∧ (∃ rs', Bs w' lo W S (full done buf bto ++ leb n) (full done buf bto ++ leb n).length 0 0 rs') ∧ Fr lo w w' := by
  have HF := Aside0.mk (flush_calls h hb ht (by omega))
  have hlen := full_len done buf bto
  rw [show done ++ toB ((bto + 7) / 8) buf = full done buf bto from rfl, ← hlen] at HF
  have hfl : (full done buf bto).length ≤ 2000100 := by omega
  generalize full done buf bto = D at HF hfl ⊢
  have hlb := leb_len 10 n (by omega) (by omega)
  have HLB := Aside0.mk hlb
  have HFL := Aside0.mk hfl
  have HN := Aside0.mk hn
  clear h hb ht hl hlen hlb hfl hn
  go_enter Try.func33, Try.ntmps33
  go_upto_region 3 with (first | (go_at_call 31; refine HF.out.mono ?_; rintro e w1 ⟨rfl, ⟨rs1, b1⟩, f1⟩; have HU := Aside0.mk (putuv_calls W _ _ _ _ rs1 n w1 b1.bw HN.out); have B1 := Aside0.mk b1; have F1 := Aside0.mk f1; clear b1 f1) | (go_at_call 48; refine HU.out.mono ?_; rintro e w2 ⟨rfl, ⟨rs2, u1, u2⟩, u3, u4⟩; have b2 := B1.out.kept u3 u1; have f2 := F1.out.trans (Fr.of_bw B1.out.bw B1.out.low u4 u3); have r0 := u1.c0; have r2 := u1.c2; have hsl := slice_buf W (leb n).length HLB.out.2; have HW := Aside0.mk (bs_wat (b2.drewN 1) ⟨W, 12, none⟩ 10 (leb n) D.length HLB.out.1 (by have := HLB.out.2; have := HFL.out; omega) (fun W' hk => src_buf (w := W') ⟨hk W 95 _ u1.1 (by decide), u1.2⟩ u2 HLB.out.2)); have F2 := Aside0.mk f2; clear b2 f2 u1 u2 u3 u4))
  go_region_held3 (fun w' => w'.cell? ⟨W, 0, none⟩ = some (.iface 68 (.pointer (some ⟨S, 0, none⟩))) ∧ w'.cell? ⟨W, 2, none⟩ = some (.int .i64 (D.length : Int))) (go_keep) (first | (go_at_call 99; go_loud (refine HW.out.mono ?_; rintro e w3 ⟨⟨m, rfl⟩, p1, p2, p3⟩; have b3 := p1 rfl; have q0 := b3.bw.c0; have q2 := b3.bw.c2; have z2 := b3.bw.f 2; have B3 := Aside0.mk b3; have F3 := Aside0.mk (F2.out.trans (Fr.drewN 1 p3)); clear b3 p1 p2 p3)))
  go_wp2
  go_ret
  have hw : wrap64 ((D.length : Int) + ((leb n).length : Int)) = (((D ++ leb n).length : Nat) : Int) := by have := HLB.out.2; have := HFL.out; unfold wrap64; simp; omega
  rw [hw]
  exact ⟨rfl, ⟨_, B3.out.s2 _⟩, F3.out.trans (Fr.set B3.out.bw B3.out.low 2 _)⟩
theorem zz_is (v : Int) (h1 : -9223372036854775808 ≤ v) (h2 : v ≤ 9223372036854775807) : IntKind.u64.wrap (bits BinOp.xor IntKind.i64 (wrap64 (v * 2)) (v / 9223372036854775808)) = (zz v : Int) := by
  have hb : bits BinOp.xor IntKind.i64 (wrap64 (v * 2)) (v / 9223372036854775808) = IntKind.i64.wrap ((BitVec.ofInt 64 (wrap64 (v * 2)) ^^^ BitVec.ofInt 64 (v / 9223372036854775808)).toNat : Int) := rfl
  rw [hb]
  by_cases c : 0 ≤ v
  · have e : v / 9223372036854775808 = 0 := by omega
    have e2 : BitVec.ofInt 64 (0 : Int) = 0#64 := by decide
    rw [e, e2, BitVec.xor_zero, BitVec.toNat_ofInt]
    unfold zz wrap64
    rw [if_pos c]
    simp [IntKind.wrap, IntKind.bits, IntKind.signed]
    omega
  · have e : v / 9223372036854775808 = -1 := by omega
    have e2 : BitVec.ofInt 64 (-1 : Int) = BitVec.allOnes 64 := by decide
    rw [e, e2, BitVec.xor_allOnes, BitVec.toNat_not, BitVec.toNat_ofInt]
    unfold zz wrap64
    rw [if_neg c]
    simp [IntKind.wrap, IntKind.bits, IntKind.signed]
    omega
set_option maxHeartbeats 4000000 in
set_option maxRecDepth 100000 in
theorem zig_calls {w : World} {lo W S : Nat} {done : List Int} {buf bto : Nat} {rs : List Int} (v : Int) (h : Bs w lo W S done done.length buf bto rs) (hb : buf < 18446744073709551616) (ht : bto < 64) (hl : done.length ≤ 2000000) (hv : -9223372036854775808 ≤ v) (hv2 : v ≤ 9223372036854775807) :
    Calls Try.prog 34 #[.pointer (some ⟨W, 0, none⟩), .int .i64 v] w fun e w' => e = .returned (.bool true) ∧ (∃ rs', Bs w' lo W S (full done buf bto ++ leb (zz v)) (full done buf bto ++ leb (zz v)).length 0 0 rs') ∧ Fr lo w w' := by
  have HV := Aside0.mk (vlq_calls (zz v) h hb ht hl (by unfold zz; split <;> omega))
  clear h hb ht hl
  have hz := zz_is v hv hv2
  go_enter Try.func34, Try.ntmps34
  go_wp2_with (first | (go_at_call 33; with_reducible refine HV.out.mono ?_; rintro e w1 ⟨rfl, h1, h2⟩; have H1 := Aside0.mk (And.intro h1 h2); clear h1 h2))
  go_ret
  exact ⟨rfl, H1.out⟩
theorem bs_res {w : World} {lo W S : Nat} {done : List Int} {byo buf bto : Nat} {rs : List Int} (m : Nat) (h : Bs w lo W S done byo buf bto rs) (hb : done.length + m ≤ 4000000) :
    Calls Try.prog 52 #[.pointer (some ⟨S, 0, none⟩), .int .i64 ((done.length + m : Nat) : Int)] w fun e w' => e = .returned (.tuple #[]) ∧ Bs w' lo W S (done ++ List.replicate m 0) byo buf bto rs ∧ Fr lo w w' := by
  obtain ⟨B, D, k, q, G, h1, h2, l1, l2, l3, l4⟩ := h
  refine (reserve_any S B D _ 0 q G (done.length + m) w h2 (by omega)).mono ?_
  rintro e w' ⟨he, D', l', f1, f2, ⟨k', rfl⟩, f3, f4, f5⟩
  have hW : ¬ (W = B) := blk_ne h1.1 h2.b.1 (by decide)
  have hl : lo ≤ D' := by rcases f3 with rfl | f; exact l4; have := h1.lt; omega
  have e2 : done ++ List.replicate k (0 : Int) ++ List.replicate k' 0 = (done ++ List.replicate m 0) ++ List.replicate (k + k' - m) 0 := by
    simp at f2
    rw [List.append_assoc, List.append_assoc, List.replicate_append_replicate, List.replicate_append_replicate]
    congr 2
    omega
  rw [e2] at f1
  exact ⟨he, ⟨B, D', _, q, G, h1.kept f4 hW, f1, l1, l2, l3, hl⟩, Fr.of_kept (f5.mono l3) f4 (fun g t cs e a b c d hg => blk_ne e h2.b.1 c hg)⟩
set_option maxHeartbeats 4000000 in
set_option maxRecDepth 100000 in
theorem skip_calls {w : World} {lo W S : Nat} {done : List Int} {buf bto : Nat} {rs : List Int} (h : Bs w lo W S done done.length buf bto rs) (hb : buf < 18446744073709551616) (ht : bto < 64) (hl : done.length ≤ 2000000) :
    Calls Try.prog 40 #[.pointer (some ⟨W, 0, none⟩), .int .i64 4] w fun e w' => e = .returned (.tuple #[.int .i64 ((full done buf bto).length : Int), .nilIface]) ∧ (∃ rs', Bs w' lo W S (full done buf bto ++ [0, 0, 0, 0]) (full done buf bto ++ [0, 0, 0, 0]).length 0 0 rs') ∧ Fr lo w w' := by
  have HF := Aside0.mk (flush_calls h hb ht (by omega))
  have hlen := full_len done buf bto
  rw [show done ++ toB ((bto + 7) / 8) buf = full done buf bto from rfl, ← hlen] at HF
  have hfl : (full done buf bto).length ≤ 2000100 := by omega
  generalize full done buf bto = D at HF hfl ⊢
  have HFL := Aside0.mk hfl
  have HWR := Aside0.mk (show wrap64 ((D.length : Int) + 4) = ((D.length + 4 : Nat) : Int) by unfold wrap64; omega)
  clear h hb ht hl hlen hfl
  go_enter Try.func40, Try.ntmps40
  go_wp2_with (first | (go_at_call 31; refine HF.out.mono ?_; rintro e w1 ⟨rfl, ⟨rs1, b1⟩, f1⟩; have r2 := b1.bw.c2; have z2 := b1.bw.f 2; have hw := HWR.out; have B1 := Aside0.mk b1; have F1 := Aside0.mk f1; clear b1 f1))
  have b2 := B1.out.s2 (D.length + 4)
  have f2 := F1.out.trans (Fr.set B1.out.bw B1.out.low 2 (.int .i64 ((D.length + 4 : Nat) : Int)))
  clear r2 z2 hw
  rw [show ((D.length + 4 : Nat) : Int) = (D.length : Int) + 4 by omega] at b2 f2
  generalize w1.setCell ⟨W, 2, none⟩ (.int .i64 ((D.length : Int) + 4)) = w2 at b2 f2 ⊢
  have r0 := b2.bw.c0
  have r2 := b2.bw.c2
  have HR := Aside0.mk (bs_res 4 b2.drew (by have := HFL.out; omega))
  have F2 := Aside0.mk f2
  clear b2 f2
  go_still_tail 10, (by kernel_rfl)
  change wpList _ _ _ _ _ w2.drew
  go_wp2_with (first | (go_at_call 52; refine HR.out.mono ?_; rintro e w3 ⟨rfl, b3, f3⟩; have B3 := Aside0.mk b3; have F3 := Aside0.mk (F2.out.trans (Fr.drew f3)); clear b3 f3))
  go_ret2
  exact ⟨rfl, ⟨_, by simpa using B3.out⟩, F3.out⟩
theorem or_add (a c k : Nat) (ha : a < 2 ^ k) (hk : k < 64) : a ||| (c * 2 ^ k % 18446744073709551616) = (a + c * 2 ^ k) % 18446744073709551616 := by
  have e : 18446744073709551616 = 2 ^ (64 - k) * 2 ^ k := by rw [← Nat.pow_add, show 64 - k + k = 64 by omega]
  have e1 : c * 2 ^ k % 18446744073709551616 = c % 2 ^ (64 - k) * 2 ^ k := by rw [e, Nat.mul_mod_mul_right]
  have e2 : a ||| c % 2 ^ (64 - k) * 2 ^ k = a + c % 2 ^ (64 - k) * 2 ^ k := by
    have := Nat.two_pow_add_eq_or_of_lt ha (c % 2 ^ (64 - k))
    rw [Nat.mul_comm, Nat.or_comm, ← this, Nat.add_comm]
  rw [e1, e2]
  have h3 : c % 2 ^ (64 - k) + 1 ≤ 2 ^ (64 - k) := Nat.mod_lt _ (Nat.two_pow_pos _)
  have h4 : (c % 2 ^ (64 - k) + 1) * 2 ^ k ≤ 2 ^ (64 - k) * 2 ^ k := Nat.mul_le_mul_right _ h3
  rw [← e, Nat.add_mul, Nat.one_mul] at h4
  have h5 : (a + c % 2 ^ (64 - k) * 2 ^ k) % 18446744073709551616 = a + c % 2 ^ (64 - k) * 2 ^ k := Nat.mod_eq_of_lt (by omega)
  rw [← h5, ← e1, Nat.add_mod_mod]
theorem or_is (a c k : Nat) (ha : a < 2 ^ k) (hk : k < 64) : bits .or .u64 (a : Int) (IntKind.u64.wrap ((c : Int) * 2 ^ k)) = (((a + c * 2 ^ k) % 18446744073709551616 : Nat) : Int) := by
  have hw : IntKind.u64.wrap ((c : Int) * 2 ^ k) = ((c * 2 ^ k % 18446744073709551616 : Nat) : Int) := by
    have : (c : Int) * 2 ^ k = ((c * 2 ^ k : Nat) : Int) := by simp
    rw [this]
    generalize c * 2 ^ k = x
    simp [IntKind.wrap, IntKind.bits, IntKind.signed]
  have h2 : (2 : Nat) ^ k < 2 ^ 64 := Nat.pow_lt_pow_right (by omega) hk
  rw [hw, u64_or_nat a _ (by omega) (Nat.mod_lt _ (by omega)), or_add a c k ha hk]
theorem shr_is (a c k : Nat) (ha : a < 2 ^ k) (hk : k ≤ 64) : (a + c * 2 ^ k) / 18446744073709551616 = c / 2 ^ (64 - k) := by
  have e : 18446744073709551616 = 2 ^ k * 2 ^ (64 - k) := by rw [← Nat.pow_add, show k + (64 - k) = 64 by omega]
  rw [e, ← Nat.div_div_eq_div_mul, Nat.add_mul_div_right _ _ (Nat.two_pow_pos k), Nat.div_eq_of_lt ha, Nat.zero_add]
set_option maxHeartbeats 4000000 in
set_option maxRecDepth 100000 in
theorem val_lo {w : World} {lo W S : Nat} {done : List Int} {buf bto : Nat} {rs : List Int} (v n : Nat) (h : Bs w lo W S done done.length buf bto rs) (hb : buf < 2 ^ bto) (ht : bto < 64) (hc : bto + n < 64) :
    Calls Try.prog 45 #[.pointer (some ⟨W, 0, none⟩), .int .u64 (v : Int), .int .u64 (n : Int)] w fun e w' => e = .returned .nilIface ∧ Bs w' lo W S done done.length ((buf + v * 2 ^ bto) % 18446744073709551616) (bto + n) rs ∧ Fr lo w w' := by
  have r1 := h.bw.c1
  have r3 := h.bw.c3
  have z1 := h.bw.f 1
  have z3 := h.bw.f 3
  have ho := or_is buf v bto hb ht
  generalize (buf + v * 2 ^ bto) % 18446744073709551616 = m at ho ⊢
  have d1 := (h.s1 m).drew
  have d2 := d1.s3 (bto + n)
  have e1 := (Fr.set h.bw h.low 1 (.int .u64 (m : Int))).trans (Fr.drew (Fr.set d1.bw d1.low 3 (.int .u64 ((bto + n : Nat) : Int))))
  rw [show ((bto + n : Nat) : Int) = (bto : Int) + (n : Int) by omega] at d2 e1
  have D2 := Aside0.mk d2
  have E1 := Aside0.mk e1
  have hd : decide ((bto : Int) + (n : Int) ≥ 64) = false := decide_eq_false (by omega)
  clear h d1 d2 e1 hb
  go_enter Try.func45, Try.ntmps45
  go_wp2
  go_still_tail 13, (by kernel_rfl)
  change wpList _ _ _ _ _ w.drew
  go_wp2
  go_ret
  exact ⟨rfl, D2.out, E1.out⟩
set_option maxHeartbeats 4000000 in
set_option maxRecDepth 100000 in
theorem val_hi {w : World} {lo W S : Nat} {done : List Int} {buf bto : Nat} {rs : List Int} (v n : Nat) (h : Bs w lo W S done done.length buf bto rs) (hb : buf < 2 ^ bto) (ht : bto < 64) (hl : done.length ≤ 2000000) (hn : n ≤ 64) (hc : 64 ≤ bto + n) (hv : v < 18446744073709551616) :
    Calls Try.prog 45 #[.pointer (some ⟨W, 0, none⟩), .int .u64 (v : Int), .int .u64 (n : Int)] w fun e w' => e = .returned .nilIface ∧ (∃ rs', Bs w' lo W S (done ++ toB 8 ((buf + v * 2 ^ bto) % 18446744073709551616)) (done.length + 8) ((buf + v * 2 ^ bto) / 18446744073709551616) (bto + n - 64) rs') ∧ Fr lo w w' := by
  have r1 := h.bw.c1
  have r3 := h.bw.c3
  have z1 := h.bw.f 1
  have z3 := h.bw.f 3
  have ho := or_is buf v bto hb ht
  have hsh := shr_is buf v bto hb (by omega)
  have hm : (buf + v * 2 ^ bto) % 18446744073709551616 < 18446744073709551616 := Nat.mod_lt _ (by omega)
  generalize (buf + v * 2 ^ bto) % 18446744073709551616 = m at ho hm ⊢
  rw [hsh]
  clear hsh
  have d1 := (h.s1 m).drew
  have d2 := d1.s3 (bto + n)
  have e1 := (Fr.set h.bw h.low 1 (.int .u64 (m : Int))).trans (Fr.drew (Fr.set d1.bw d1.low 3 (.int .u64 ((bto + n : Nat) : Int))))
  rw [show ((bto + n : Nat) : Int) = (bto : Int) + (n : Int) by omega] at d2 e1
  have D2 := Aside0.mk d2
  have E1 := Aside0.mk e1
  have hd : decide ((bto : Int) + (n : Int) ≥ 64) = true := decide_eq_true (by omega)
  have HM := Aside0.mk hm
  have HL := Aside0.mk hl
  clear h d1 d2 e1 hb hm hl
  go_enter Try.func45, Try.ntmps45
  go_wp2
  go_still_tail 13, (by kernel_rfl)
  change wpList _ _ _ _ _ w.drew
  go_wp2
  have b1 := D2.out
  change Bs ((w.setCell ⟨W, 1, none⟩ (.int .u64 (m : Int))).setCell ⟨W, 3, none⟩ (.int .u64 ((bto : Int) + (n : Int)))).drew _ _ _ _ _ _ _ _ at b1
  clear r1 r3 z1 z3
  have f1 : Fr lo w ((w.setCell ⟨W, 1, none⟩ (.int .u64 (m : Int))).setCell ⟨W, 3, none⟩ (.int .u64 ((bto : Int) + (n : Int)))).drew := E1.out
  generalize ((w.setCell ⟨W, 1, none⟩ (.int .u64 (m : Int))).setCell ⟨W, 3, none⟩ (.int .u64 ((bto : Int) + (n : Int)))).drew = w1 at b1 f1 ⊢
  have r1 := b1.bw.c1
  have HP := Aside0.mk (put64_calls W _ _ _ _ rs 8 m w1.drew b1.bw.drew HM.out)
  have B1 := Aside0.mk b1
  have F1 := Aside0.mk f1
  clear b1 f1 D2 E1
  go_still_tail 9, (by kernel_rfl)
  change wpList _ _ _ _ _ w1.drew
  go_upto_region 5 with (first | (go_at_call 47; refine HP.out.mono ?_; rintro e w2 ⟨rfl, e1, e2, e3⟩; have b2 := B1.out.kept ⟨e2.1, e2.2⟩ e1; have f2 := F1.out.trans (Fr.of_bw B1.out.bw B1.out.low ((below_drew (Below.refl _ _)).trans e3) ⟨e2.1, e2.2⟩); have r0 := b2.bw.c0; have r2 := b2.bw.c2; have hW := bs_wat (b2.drewN 1) ⟨W, 4, none⟩ 8 (toB 8 m) done.length (by rw [toB_len]; omega) (by rw [toB_len]; have := HL.out; omega) (fun W' hk => src_raw (w := W') (t := rs.drop 8) ⟨hk W 95 _ e1.1 (by decide), e1.2⟩ 8 (by omega)); rw [toB_len] at hW; have HW := Aside0.mk hW; have F2 := Aside0.mk f2; clear b2 f2 e1 e2 e3 hW))
  go_region_held3 (fun w' => w'.cell? ⟨W, 0, none⟩ = some (.iface 68 (.pointer (some ⟨S, 0, none⟩))) ∧ w'.cell? ⟨W, 2, none⟩ = some (.int .i64 (done.length : Int))) (go_keep) (first | (go_at_call 99; go_loud (refine HW.out.mono ?_; rintro e w3 ⟨⟨q, rfl⟩, p1, p2, p3⟩; have b3 := p1 rfl; have q0 := b3.bw.c0; have q1 := b3.bw.c1; have q2 := b3.bw.c2; have q3 := b3.bw.c3; have z1 := b3.bw.f 1; have z2 := b3.bw.f 2; have z3 := b3.bw.f 3; have B3 := Aside0.mk b3; have F3 := Aside0.mk (F2.out.trans (Fr.drewN 1 p3)); clear b3 p1 p2 p3)))
  go_wp2
  go_ret
  have hw : wrap64 ((done.length : Int) + 8) = ((done.length + 8 : Nat) : Int) := by have := HL.out; unfold wrap64; omega
  have h3 : (bto : Int) + (n : Int) - 64 = ((bto + n - 64 : Nat) : Int) := by omega
  have h4 : n - (bto + n - 64) = 64 - bto := by omega
  have h5 : (v : Int) / 2 ^ (64 - bto) = ((v / 2 ^ (64 - bto) : Nat) : Int) := by simp
  rw [hw, h3, h4, h5]
  have d1 := B3.out.s1 0
  have d2 := d1.s2 (done.length + 8)
  have d3 := d2.s3 (bto + n - 64)
  have d4 := d3.s1 (v / 2 ^ (64 - bto))
  exact ⟨rfl, ⟨_, d4⟩, (((F3.out.trans (Fr.set B3.out.bw B3.out.low 1 _)).trans (Fr.set d1.bw d1.low 2 _)).trans (Fr.set d2.bw d2.low 3 _)).trans (Fr.set d3.bw d3.low 1 _)⟩
end Go.Proofs.Ytdekingogcmboaa.Q

/- The writer of bits: bytes, and a number of bits behind them. -/
namespace Go.Proofs.Ytdekingogcmboaa.Q
open Go.RowKit Go.Proofs.YtdekingogcmboaaW.PrintWords Go.Proofs.YtdekingogcmboaaW.PrintLast Go.Proofs.YtdekingogcmboaaW.PrintMore
set_option linter.unusedVariables false
set_option linter.unusedSimpArgs false
/-- The bytes that are there when a number of so many bits stands behind some. -/
def thr (pre : List Int) (N bits : Nat) : List Int := pre ++ toB (8 * (bits / 64)) N
theorem thr_len (pre : List Int) (N bits : Nat) : (thr pre N bits).length = pre.length + 8 * (bits / 64) := by simp [thr, toB_len]
def St (w : World) (lo W S : Nat) (pre : List Int) (N bits : Nat) : Prop :=
  N < 2 ^ bits ∧ ∃ rs, Bs w lo W S (thr pre N bits) (thr pre N bits).length (N / 2 ^ (64 * (bits / 64))) (bits % 64) rs
theorem p256 (q : Nat) : (256 : Nat) ^ (8 * q) = 2 ^ (64 * q) := by
  rw [show (256 : Nat) = 2 ^ 8 by rfl, ← Nat.pow_mul, show 8 * (8 * q) = 64 * q by omega]
theorem wait_lt {N bits : Nat} (h : N < 2 ^ bits) : N / 2 ^ (64 * (bits / 64)) < 2 ^ (bits % 64) := by
  rw [Nat.div_lt_iff_lt_mul (Nat.two_pow_pos _), ← Nat.pow_add, show bits % 64 + 64 * (bits / 64) = bits by omega]
  exact h
theorem wait_64 {N bits : Nat} (h : N < 2 ^ bits) : N / 2 ^ (64 * (bits / 64)) < 18446744073709551616 := by
  have h1 := wait_lt h
  have h2 : (2 : Nat) ^ (bits % 64) ≤ 2 ^ 64 := Nat.pow_le_pow_right (by omega) (by omega)
  omega
theorem full_thr {N bits : Nat} (pre : List Int) : full (thr pre N bits) (N / 2 ^ (64 * (bits / 64))) (bits % 64) = pre ++ toB ((bits + 7) / 8) N := by
  unfold full thr
  rw [List.append_assoc]
  congr 1
  rw [show (bits + 7) / 8 = 8 * (bits / 64) + (bits % 64 + 7) / 8 by omega, toB_add, p256]
/-- A value is put behind the number. -/
theorem step_split (N v bits : Nat) : N + v * 2 ^ bits = N + (v * 2 ^ (bits % 64)) * 2 ^ (64 * (bits / 64)) := by
  rw [Nat.mul_assoc, ← Nat.pow_add, show bits % 64 + 64 * (bits / 64) = bits by omega]
theorem step_hi (N v bits : Nat) : (N + v * 2 ^ bits) / 2 ^ (64 * (bits / 64)) = N / 2 ^ (64 * (bits / 64)) + v * 2 ^ (bits % 64) := by
  rw [step_split, Nat.add_mul_div_right _ _ (Nat.two_pow_pos _)]
theorem step_lo (pre : List Int) (N v bits : Nat) : toB (8 * (bits / 64)) (N + v * 2 ^ bits) = toB (8 * (bits / 64)) N := by
  rw [step_split, ← p256]
  exact toB_lo _ _ _ _ (Nat.le_refl _)
theorem step_lt {N v bits n : Nat} (h : N < 2 ^ bits) (hv : v < 2 ^ n) : N + v * 2 ^ bits < 2 ^ (bits + n) := by
  have : (v + 1) * 2 ^ bits ≤ 2 ^ n * 2 ^ bits := Nat.mul_le_mul_right _ hv
  rw [Nat.add_mul, Nat.one_mul, ← Nat.pow_add, Nat.add_comm n bits] at this
  omega
theorem st_val {w : World} {lo W S : Nat} {pre : List Int} {N bits : Nat} (v n : Nat) (h : St w lo W S pre N bits) (hn : n ≤ 64) (hv : v < 2 ^ n) (hl : pre.length + bits ≤ 2000000) :
    Calls Try.prog 45 #[.pointer (some ⟨W, 0, none⟩), .int .u64 (v : Int), .int .u64 (n : Int)] w fun e w' => e = .returned .nilIface ∧ St w' lo W S pre (N + v * 2 ^ bits) (bits + n) ∧ Fr lo w w' := by
  obtain ⟨hN, rs, hb⟩ := h
  have hw := wait_lt hN
  have hlen := thr_len pre N bits
  have hN2 := step_lt hN hv
  have hi := step_hi N v bits
  have hlo := step_lo pre N v bits
  have hv64 : v < 18446744073709551616 := by
    have : (2 : Nat) ^ n ≤ 2 ^ 64 := Nat.pow_le_pow_right (by omega) hn
    omega
  by_cases c : bits % 64 + n < 64
  · refine (val_lo v n hb hw (Nat.mod_lt _ (by omega)) c).mono ?_
    rintro e w' ⟨he, b1, f1⟩
    refine ⟨he, ⟨hN2, rs, ?_⟩, f1⟩
    have hd : (bits + n) / 64 = bits / 64 := by omega
    have hm : (bits + n) % 64 = bits % 64 + n := by omega
    have hs : N / 2 ^ (64 * (bits / 64)) + v * 2 ^ (bits % 64) < 18446744073709551616 := by
      have h1 := step_lt hw hv
      have h2 : (2 : Nat) ^ (bits % 64 + n) ≤ 2 ^ 64 := Nat.pow_le_pow_right (by omega) (by omega)
      omega
    rw [Nat.mod_eq_of_lt hs] at b1
    have ht : thr pre (N + v * 2 ^ bits) (bits + n) = thr pre N bits := by unfold thr; rw [hd, hlo]
    rw [ht, hd, hm, hi]
    exact b1
  · refine (val_hi v n hb hw (Nat.mod_lt _ (by omega)) (by omega) hn (by omega) hv64).mono ?_
    rintro e w' ⟨he, ⟨rs', b1⟩, f1⟩
    refine ⟨he, ⟨hN2, rs', ?_⟩, f1⟩
    have hd : (bits + n) / 64 = bits / 64 + 1 := by omega
    have hm : (bits + n) % 64 = bits % 64 + n - 64 := by omega
    have ht : thr pre (N + v * 2 ^ bits) (bits + n) = thr pre N bits ++ toB 8 ((N / 2 ^ (64 * (bits / 64)) + v * 2 ^ (bits % 64)) % 18446744073709551616) := by
      have e8 := toB_mod 8 (N / 2 ^ (64 * (bits / 64)) + v * 2 ^ (bits % 64)) 8 (Nat.le_refl _)
      rw [show (256 : Nat) ^ 8 = 18446744073709551616 by rfl] at e8
      unfold thr
      rw [hd, Nat.mul_add, Nat.mul_one, toB_add, hlo, p256, hi, e8, List.append_assoc]
    have h3 : (N + v * 2 ^ bits) / 2 ^ (64 * ((bits + n) / 64)) = (N / 2 ^ (64 * (bits / 64)) + v * 2 ^ (bits % 64)) / 18446744073709551616 := by
      rw [hd, Nat.mul_add, Nat.mul_one, Nat.pow_add, ← Nat.div_div_eq_div_mul, hi]
    rw [ht, h3, hm]
    have hl8 : (thr pre N bits ++ toB 8 ((N / 2 ^ (64 * (bits / 64)) + v * 2 ^ (bits % 64)) % 18446744073709551616)).length = (thr pre N bits).length + 8 := by simp [toB_len]
    rw [hl8]
    exact b1
theorem St.of_bs {w : World} {lo W S : Nat} {l : List Int} {rs : List Int} (h : Bs w lo W S l l.length 0 0 rs) : St w lo W S l 0 0 :=
  ⟨by simp, rs, by simpa [thr, toB] using h⟩
theorem st_flush {w : World} {lo W S : Nat} {pre : List Int} {N bits : Nat} (h : St w lo W S pre N bits) (hl : pre.length + bits ≤ 2000000) :
    Calls Try.prog 31 #[.pointer (some ⟨W, 0, none⟩), .bool true] w fun e w' => e = .returned (.tuple #[]) ∧ St w' lo W S (pre ++ toB ((bits + 7) / 8) N) 0 0 ∧ Fr lo w w' := by
  obtain ⟨hN, rs, hb⟩ := h
  have hlen := thr_len pre N bits
  have hft := full_thr (N := N) (bits := bits) pre
  have hfl := full_len (thr pre N bits) (N / 2 ^ (64 * (bits / 64))) (bits % 64)
  refine (flush_calls hb (wait_64 hN) (Nat.mod_lt _ (by omega)) (by omega)).mono ?_
  rintro e w' ⟨he, ⟨rs', b1⟩, f1⟩
  rw [show thr pre N bits ++ toB ((bits % 64 + 7) / 8) (N / 2 ^ (64 * (bits / 64))) = full (thr pre N bits) (N / 2 ^ (64 * (bits / 64))) (bits % 64) from rfl, ← hfl, hft] at b1
  exact ⟨he, St.of_bs b1, f1⟩
theorem st_zig {w : World} {lo W S : Nat} {pre : List Int} {N bits : Nat} (v : Int) (h : St w lo W S pre N bits) (hl : pre.length + bits ≤ 2000000) (hv : -9223372036854775808 ≤ v) (hv2 : v ≤ 9223372036854775807) :
    Calls Try.prog 34 #[.pointer (some ⟨W, 0, none⟩), .int .i64 v] w fun e w' => e = .returned (.bool true) ∧ St w' lo W S (pre ++ toB ((bits + 7) / 8) N ++ leb (zz v)) 0 0 ∧ Fr lo w w' := by
  obtain ⟨hN, rs, hb⟩ := h
  have hlen := thr_len pre N bits
  refine (zig_calls v hb (wait_64 hN) (Nat.mod_lt _ (by omega)) (by omega) hv hv2).mono ?_
  rintro e w' ⟨he, ⟨rs', b1⟩, f1⟩
  rw [full_thr] at b1
  exact ⟨he, St.of_bs b1, f1⟩
theorem st_skip {w : World} {lo W S : Nat} {pre : List Int} (h : St w lo W S pre 0 0) (hl : pre.length ≤ 2000000) :
    Calls Try.prog 40 #[.pointer (some ⟨W, 0, none⟩), .int .i64 4] w fun e w' => e = .returned (.tuple #[.int .i64 (pre.length : Int), .nilIface]) ∧ St w' lo W S (pre ++ [0, 0, 0, 0]) 0 0 ∧ Fr lo w w' := by
  obtain ⟨hN, rs, hb⟩ := h
  have hb2 : Bs w lo W S pre pre.length 0 0 rs := by simpa [thr, toB] using hb
  have hf : full pre 0 0 = pre := by simp [full, toB]
  refine (skip_calls hb2 (by omega) (by omega) hl).mono ?_
  rintro e w' ⟨he, ⟨rs', b1⟩, f1⟩
  rw [hf] at b1 he
  exact ⟨he, St.of_bs b1, f1⟩
set_option maxHeartbeats 2000000 in
set_option maxRecDepth 100000 in
theorem at_calls {w : World} {lo W S : Nat} {done : List Int} {byo buf bto : Nat} {rs : List Int} (X off : Nat) (b : Int) (h : Bs w lo W S done byo buf bto rs) (ho : off < done.length) (hl : done.length ≤ 2000000) (hX : Row w X [b]) :
    Calls Try.prog 44 #[.pointer (some ⟨W, 0, none⟩), .slice (some ⟨X, 0, none⟩) 1 1, .int .i64 (off : Int)] w fun e w' => (∃ v, e = .returned v) ∧ Bs w' lo W S (done.set off b) byo buf bto rs ∧ Fr lo w w' := by
  have r0 := h.bw.c0
  have HW := Aside0.mk (bs_wat h ⟨X, 0, none⟩ 1 [b] off (by simp) (by simp; omega) (fun W' hk => by
    have hr : Row W' X [b] := hk X 5 _ hX (by decide)
    intro j hj
    have hj0 : j = 0 := by simp at hj; omega
    subst hj0
    have := hr.cell 0 (by simp)
    simpa [Addr.add] using this))
  have HO := Aside0.mk ho
  clear h ho hl hX
  go_enter Try.func44, Try.ntmps44
  go_wp2_with (first | (go_at_call 99; refine HW.out.mono ?_; rintro e w1 ⟨⟨n, rfl⟩, p1, p2, p3⟩; have P2 := Aside0.mk (p2 b HO.out rfl); have P3 := Aside0.mk p3; clear p1 p2 p3))
  go_ret2
  exact ⟨⟨_, rfl⟩, P2.out, P3.out⟩
theorem st_at {w : World} {lo W S : Nat} {pre : List Int} {N bits : Nat} (X off : Nat) (b : Int) (h : St w lo W S pre N bits) (ho : off < pre.length) (hl : pre.length + bits ≤ 2000000) (hX : Row w X [b]) :
    Calls Try.prog 44 #[.pointer (some ⟨W, 0, none⟩), .slice (some ⟨X, 0, none⟩) 1 1, .int .i64 (off : Int)] w fun e w' => (∃ v, e = .returned v) ∧ St w' lo W S (pre.set off b) N bits ∧ Fr lo w w' := by
  obtain ⟨hN, rs, hb⟩ := h
  have hlen := thr_len pre N bits
  refine (at_calls X off b hb (by omega) (by omega) hX).mono ?_
  rintro e w' ⟨he, b1, f1⟩
  have e1 : (thr pre N bits).set off b = thr (pre.set off b) N bits := by unfold thr; rw [List.set_append_left _ _ ho]
  have e2 : (thr (pre.set off b) N bits).length = (thr pre N bits).length := by simp [thr]
  rw [e1] at b1
  exact ⟨he, ⟨hN, rs, by rw [e2]; exact b1⟩, f1⟩
set_option maxHeartbeats 2000000 in
set_option maxRecDepth 100000 in
theorem written_calls {w : World} {W : Nat} {i : Value} {buf : Int} {byo bto : Nat} {rs : List Int} (h : Bw w W i buf byo bto rs) (hl : byo ≤ 4000000) (ht : bto = 0) :
    Calls Try.prog 35 #[.pointer (some ⟨W, 0, none⟩)] w fun e w' => e = .returned (.int .i64 (byo : Int)) ∧ ∃ m, w' = w.drewN m := by
  subst ht
  have r2 := h.c2
  have r3 : w.cell? ⟨W, 3, none⟩ = some (.int .u64 0) := h.c3
  have HB := Aside0.mk (fun d => (bfb_calls 0 (by omega) (w.drewN d)).mono (fun e w' hh => (⟨hh.1, d, hh.2⟩ : e = .returned (.int .i64 0) ∧ ∃ m, w' = w.drewN m)))
  clear h
  go_enter Try.func35, Try.ntmps35
  go_wp2
  go_quiet (first | (go_at_call 46; exact HB.out _))
  go_wp2
  go_ret
  exact ⟨rfl, _, rfl⟩
end Go.Proofs.Ytdekingogcmboaa.Q
