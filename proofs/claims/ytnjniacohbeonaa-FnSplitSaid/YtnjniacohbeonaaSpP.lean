/- The law FnSplit over lists: the program's splitter of bytes and the one of package spec make the same list. -/
import Derived.Test.YtnjniacohbeonaaSpi
import Derived.Test.YtnjniacohbeonaaQSpb
namespace Go.Proofs.Ytnjniacohbeonaa.Q
open Go.RowKit Go.Proofs.YtnjniacohbeonaaW.PrintWords Go.Proofs.YtnjniacohbeonaaW.PrintLast Go.Proofs.YtnjniacohbeonaaW.PrintMore
set_option linter.unusedVariables false
set_option linter.unusedSimpArgs false

theorem sp_rd (l : List Int) (n : Nat) : rd l (n : Int) = l.getD n 0 := rfl
theorem sp_w {x : Int} (h0 : 0 ≤ x) (h1 : x ≤ 9223372036854775807) : wrap64 x = x := by unfold wrap64; omega

theorem sp_nat {q : Nat} (h : q ≤ 4096) : wrap64 (q : Int) = (q : Int) := sp_w (by omega) (by omega)
theorem sp_succ {q : Nat} (h : q ≤ 4096) : wrap64 ((q : Int) + 1) = ((q + 1 : Nat) : Int) := by rw [sp_w (by omega) (by omega)]; omega

/-- The byte at a place of the split stream: n bytes of each of w lanes. -/
def tgt (l : List Int) (n w j : Nat) : Int := l.getD (j % n * w + j / n) 0
def split (l : List Int) (n w : Nat) : List Int := (List.range (n * w)).map (tgt l n w)

theorem tgt_at (l : List Int) (n w c i : Nat) (hi : i < n) : tgt l n w (n * c + i) = l.getD (i * w + c) 0 := by
  unfold tgt
  have hn : 0 < n := by omega
  rw [Nat.mul_add_mod, Nat.mod_eq_of_lt hi, Nat.mul_add_div hn, Nat.div_eq_of_lt hi, Nat.add_zero]

/-! ### the specification -/
theorem lane_lt {n w c i : Nat} (hi : i < n) (hc : c < w) : i * w + c < n * w ∧ n * c + i < n * w := by
  constructor
  · have h1 : (i + 1) * w ≤ n * w := Nat.mul_le_mul_right w (by omega)
    rw [Nat.add_mul] at h1; omega
  · have h1 : n * (c + 1) ≤ n * w := Nat.mul_le_mul_left n (by omega)
    rw [Nat.mul_add] at h1; omega

theorem spec_lane (l : List Int) (n w c : Nat) (hl : l.length = n * w) (hb : n * w ≤ 4096) (hc : c < w) (hw : w ≤ 32) (m : Nat) : ∀ (i k : Nat), i + m = n →
    spec_SplitStream.l1 (k + m + 1) l (w : Int) (n : Int) ((List.range (n * c + i)).map (tgt l n w)) (c : Int) (i : Int) = spec_SplitStream.l0 k l (w : Int) (n : Int) ((List.range (n * (c + 1))).map (tgt l n w)) ((c + 1 : Nat) : Int) := by
  induction m with
  | zero =>
    intro i k hi
    obtain rfl : i = n := by omega
    simp only [spec_SplitStream.l1]
    have e5 : i * c + i = i * (c + 1) := by rw [Nat.mul_add]; omega
    rw [if_neg (by omega), sp_succ (by omega), e5]
  | succ m ih =>
    intro i k hi
    obtain ⟨h1, h2⟩ := lane_lt (n := n) (w := w) (c := c) (i := i) (by omega) hc
    have e4 : (List.range (n * c + i)).map (tgt l n w) ++ [tgt l n w (n * c + i)] = (List.range (n * c + (i + 1))).map (tgt l n w) := by
      rw [← Nat.add_assoc, List.range_succ, List.map_append]; rfl
    have e6 : tgt l n w (n * c + i) = l.getD (i * w + c) 0 := tgt_at l n w c i (by omega)
    have e7 : ((List.range (n * c + i)).map (tgt l n w)).length = n * c + i := by simp
    have t1 : (i : Int) < (n : Int) := by omega
    have t2 : (0 : Int) ≤ ((i * w + c : Nat) : Int) := by omega
    have t3 : ((i * w + c : Nat) : Int) < (l.length : Int) := by omega
    have t4 : ((List.range (n * c + i)).map (tgt l n w)).length < 140737488355328 := by omega
    have b1 : i * w ≤ 4096 := by omega
    have b2 : i * w + c ≤ 4096 := by omega
    have b3 : i ≤ 4096 := by have := Nat.le_mul_of_pos_right i (show 0 < w by omega); omega
    have e0 : ((i * w : Nat) : Int) + (c : Int) = ((i * w + c : Nat) : Int) := by omega
    have h3 := ih (i + 1) k (by omega)
    have e1 : wrap64 ((i : Int) * (w : Int)) = ((i * w : Nat) : Int) := by rw [← Int.natCast_mul]; exact sp_nat b1
    have e2 : wrap64 ((i * w + c : Nat) : Int) = ((i * w + c : Nat) : Int) := sp_nat b2
    have e3 : wrap64 ((i : Int) + 1) = ((i + 1 : Nat) : Int) := sp_succ b3
    rw [show k + (m + 1) + 1 = (k + m + 1) + 1 from rfl]
    generalize k + m + 1 = K at h3 ⊢
    simp only [spec_SplitStream.l1]
    rw [e1, e0, e2, e3, if_pos t1, if_pos t2, if_pos t3, if_pos t4, sp_rd, ← e6, e4]
    exact h3

theorem spec_lanes (l : List Int) (n w : Nat) (hl : l.length = n * w) (hb : n * w ≤ 4096) (hw : w ≤ 32) (e : Nat) : ∀ (c k : Nat), c + e = w →
    spec_SplitStream.l0 (k + e * (n + 2) + 1) l (w : Int) (n : Int) ((List.range (n * c)).map (tgt l n w)) (c : Int) = some (split l n w) := by
  induction e with
  | zero =>
    intro c k hc
    obtain rfl : c = w := by omega
    simp only [spec_SplitStream.l0]
    rw [if_neg (by omega)]; rfl
  | succ e ih =>
    intro c k hc
    have h1 : (e + 1) * (n + 2) = e * (n + 2) + (n + 2) := Nat.succ_mul e (n + 2)
    have h2 := ih (c + 1) k (by omega)
    have h3 := spec_lane l n w c hl hb (by omega) hw n 0 (k + e * (n + 2) + 1) (by omega)
    rw [Nat.add_zero] at h3
    rw [h1]
    generalize e * (n + 2) = q at h2 h3 ⊢
    rw [show k + (q + (n + 2)) + 1 = (k + q + 1 + n + 1) + 1 by omega]
    generalize k + q + 1 + n + 1 = K at h3 ⊢
    simp only [spec_SplitStream.l0]
    rw [if_pos (by omega)]
    exact h3.trans h2

theorem spec_ev (l : List Int) (n w : Nat) (hl : l.length = n * w) (hb : l.length ≤ 4096) (hw0 : 1 ≤ w) (hw : w ≤ 32) (k : Nat) (hk : 200000 < k) : spec_SplitStream.f k l (w : Int) = some (split l n w) := by
  have hn : n ≤ 4096 := by have := Nat.le_mul_of_pos_right n (show 0 < w by omega); omega
  obtain ⟨k, rfl⟩ : ∃ m, k = m + 1 := ⟨k - 1, by omega⟩
  have hm : w * (n + 2) ≤ 32 * 4098 := Nat.mul_le_mul hw (by omega)
  have h := spec_lanes l n w hl (by omega) hw w 0 (k - w * (n + 2)) (by omega)
  generalize w * (n + 2) = q at hm h
  rw [show k - q + q = k by omega] at h
  have hne : ¬ (w : Int) = 0 := by omega
  have e : wrap64 ((l.length : Int) / (w : Int)) = (n : Int) := by
    rw [hl, ← Int.natCast_ediv, Nat.mul_div_cancel _ (by omega), sp_nat hn]
  unfold spec_SplitStream.f
  rw [if_pos hb, if_neg hne, e]
  simpa using h

/-! ### the program: any width -/
/-- The list so far: the first m places are done. -/
def part (l : List Int) (n w m : Nat) : List Int := (List.range m).map (tgt l n w) ++ List.replicate (n * w - m) 0
theorem part_len (l : List Int) (n w m : Nat) (h : m ≤ n * w) : (part l n w m).length = n * w := by
  unfold part; rw [List.length_append, List.length_map, List.length_range, List.length_replicate]; omega
theorem part_set (l : List Int) (n w m : Nat) (h : m < n * w) : (part l n w m).set m (tgt l n w m) = part l n w (m + 1) := by
  unfold part
  rw [List.set_append_right _ _ (by simp), List.length_map, List.length_range, Nat.sub_self, List.range_succ, List.map_append, List.append_assoc]
  congr 1
  obtain ⟨r, hr⟩ : ∃ r, n * w - m = r + 1 := ⟨n * w - m - 1, by omega⟩
  rw [hr, show n * w - (m + 1) = r by omega]; rfl

theorem impl_lane (l : List Int) (n w c : Nat) (hl : l.length = n * w) (hb : n * w ≤ 4096) (hc : c < w) (hw : w ≤ 32) (m : Nat) : ∀ (i k : Nat), i + m = n →
    encoding_encodeByteStreamSplit.l1 (k + m + 1) (part l n w (n * c + i)) l (w : Int) (n : Int) (c : Int) (i : Int) = encoding_encodeByteStreamSplit.l0 k (part l n w (n * (c + 1))) l (w : Int) (n : Int) ((c + 1 : Nat) : Int) := by
  induction m with
  | zero =>
    intro i k hi
    obtain rfl : i = n := by omega
    simp only [encoding_encodeByteStreamSplit.l1]
    have e5 : i * c + i = i * (c + 1) := by rw [Nat.mul_add]; omega
    rw [if_neg (by omega), sp_succ (by omega), e5]
  | succ m ih =>
    intro i k hi
    obtain ⟨h1, h2⟩ := lane_lt (n := n) (w := w) (c := c) (i := i) (by omega) hc
    have e6 : tgt l n w (n * c + i) = l.getD (i * w + c) 0 := tgt_at l n w c i (by omega)
    have pl := part_len l n w (n * c + i) (by omega)
    have e4 := part_set l n w (n * c + i) h2
    have t1 : (i : Int) < (n : Int) := by omega
    have t2 : (0 : Int) ≤ ((i * w + c : Nat) : Int) := by omega
    have t3 : ((i * w + c : Nat) : Int) < (l.length : Int) := by omega
    have t4 : (0 : Int) ≤ ((n * c + i : Nat) : Int) := by omega
    have t5 : ((n * c + i : Nat) : Int) < ((part l n w (n * c + i)).length : Int) := by omega
    have b1 : i * w ≤ 4096 := by omega
    have b2 : i * w + c ≤ 4096 := by omega
    have b3 : i ≤ 4096 := by have := Nat.le_mul_of_pos_right i (show 0 < w by omega); omega
    have b4 : n * c ≤ 4096 := by omega
    have b5 : n * c + i ≤ 4096 := by omega
    have e0 : ((i * w : Nat) : Int) + (c : Int) = ((i * w + c : Nat) : Int) := by omega
    have e8 : ((n * c : Nat) : Int) + (i : Int) = ((n * c + i : Nat) : Int) := by omega
    have h3 := ih (i + 1) k (by omega)
    have e1 : wrap64 ((w : Int) * (i : Int)) = ((i * w : Nat) : Int) := by rw [Int.mul_comm, ← Int.natCast_mul]; exact sp_nat b1
    have e2 : wrap64 ((i * w + c : Nat) : Int) = ((i * w + c : Nat) : Int) := sp_nat b2
    have e3 : wrap64 ((i : Int) + 1) = ((i + 1 : Nat) : Int) := sp_succ b3
    have e7 : wrap64 ((n : Int) * (c : Int)) = ((n * c : Nat) : Int) := by rw [← Int.natCast_mul]; exact sp_nat b4
    have e9 : wrap64 ((n * c + i : Nat) : Int) = ((n * c + i : Nat) : Int) := sp_nat b5
    rw [← Nat.add_assoc] at h3
    rw [show k + (m + 1) + 1 = (k + m + 1) + 1 from rfl]
    generalize k + m + 1 = K at h3 ⊢
    simp only [encoding_encodeByteStreamSplit.l1]
    rw [e1, e0, e2, e3, e7, e8, e9, if_pos t1, if_pos t2, if_pos t3, if_pos t4, if_pos t5, Int.toNat_natCast, sp_rd, ← e6, e4]
    exact h3

theorem impl_lanes (l : List Int) (n w : Nat) (hl : l.length = n * w) (hb : n * w ≤ 4096) (hw : w ≤ 32) (e : Nat) : ∀ (c k : Nat), c + e = w →
    encoding_encodeByteStreamSplit.l0 (k + e * (n + 2) + 1) (part l n w (n * c)) l (w : Int) (n : Int) (c : Int) = some (split l n w) := by
  induction e with
  | zero =>
    intro c k hc
    obtain rfl : c = w := by omega
    simp only [encoding_encodeByteStreamSplit.l0]
    rw [if_neg (by omega)]
    unfold part split; simp
  | succ e ih =>
    intro c k hc
    have h1 : (e + 1) * (n + 2) = e * (n + 2) + (n + 2) := Nat.succ_mul e (n + 2)
    have h2 := ih (c + 1) k (by omega)
    have h3 := impl_lane l n w c hl hb (by omega) hw n 0 (k + e * (n + 2) + 1) (by omega)
    rw [Nat.add_zero] at h3
    rw [h1]
    generalize e * (n + 2) = q at h2 h3 ⊢
    rw [show k + (q + (n + 2)) + 1 = (k + q + 1 + n + 1) + 1 by omega]
    generalize k + q + 1 + n + 1 = K at h3 ⊢
    simp only [encoding_encodeByteStreamSplit.l0]
    rw [if_pos (by omega)]
    exact h3.trans h2

/-! ### the program: widths of two, four and eight bytes -/
/-- One number's bytes put into the lanes, the first c of them. -/
def puts (x : List Int) (n i : Nat) (v : Nat → Int) : Nat → List Int
  | 0 => x
  | c + 1 => (puts x n i v c).set (n * c + i) (v c)
theorem puts_len (x : List Int) (n i : Nat) (v : Nat → Int) : ∀ c, (puts x n i v c).length = x.length
  | 0 => rfl
  | c + 1 => by rw [puts, List.length_set, puts_len x n i v c]
theorem getD_set (l : List Int) (p j : Nat) (v : Int) : (l.set p v).getD j 0 = if p = j ∧ p < l.length then v else l.getD j 0 := by
  rw [List.getD_eq_getElem?_getD, List.getD_eq_getElem?_getD]
  by_cases h : p = j
  · subst h
    by_cases h2 : p < l.length
    · rw [if_pos ⟨rfl, h2⟩, List.getElem?_set_self h2]; rfl
    · rw [if_neg (fun h => h2 h.2), List.getElem?_eq_none (by rw [List.length_set]; omega), List.getElem?_eq_none (by omega)]
  · rw [if_neg (fun h2 => h h2.1), List.getElem?_set_ne h]
theorem puts_get (x : List Int) (n i w : Nat) (v : Nat → Int) (hx : x.length = n * w) (hi : i < n) (j : Nat) (hj : j < n * w) : ∀ c, c ≤ w → (puts x n i v c).getD j 0 = if j % n = i ∧ j / n < c then v (j / n) else x.getD j 0
  | 0, _ => by rw [if_neg (fun h => Nat.not_lt_zero _ h.2)]; rfl
  | c + 1, hc => by
    have ih := puts_get x n i w v hx hi j hj c (by omega)
    have hn : 0 < n := by omega
    have hd := Nat.div_add_mod j n
    rw [puts, getD_set, puts_len, hx, ih]
    by_cases h : n * c + i = j
    · have h1 : j % n = i := by rw [← h, Nat.mul_add_mod, Nat.mod_eq_of_lt hi]
      have h2 : j / n = c := by rw [← h, Nat.mul_add_div hn, Nat.div_eq_of_lt hi, Nat.add_zero]
      rw [if_pos ⟨h, by omega⟩, if_pos ⟨h1, by omega⟩, h2]
    · rw [if_neg (fun h2 => h h2.1)]
      by_cases h1 : j % n = i ∧ j / n < c
      · rw [if_pos h1, if_pos ⟨h1.1, by omega⟩]
      · rw [if_neg h1, if_neg]
        rintro ⟨h3, h4⟩
        have h5 : j / n = c := by
          have : ¬ j / n < c := fun h6 => h1 ⟨h3, h6⟩
          omega
        rw [h5, h3] at hd
        exact h hd

/-- What a round leaves: the lanes' first i places are done. -/
def Done (l : List Int) (n w i : Nat) (x : List Int) : Prop := x.length = n * w ∧ ∀ j, j < n * w → x.getD j 0 = if j % n < i then tgt l n w j else 0
theorem done_step (l : List Int) (n w i : Nat) (x : List Int) (h : Done l n w i x) (hi : i < n) : Done l n w (i + 1) (puts x n i (fun c => l.getD (i * w + c) 0) w) := by
  refine ⟨by rw [puts_len]; exact h.1, fun j hj => ?_⟩
  rw [puts_get x n i w _ h.1 hi j hj w (Nat.le_refl _), h.2 j hj]
  have hq : j / n < w := Nat.div_lt_of_lt_mul hj
  by_cases h1 : j % n = i
  · rw [if_pos ⟨h1, hq⟩, if_pos (by omega)]
    unfold tgt; rw [h1]
  · rw [if_neg (fun h2 => h1 h2.1)]
    by_cases h2 : j % n < i
    · rw [if_pos h2, if_pos (by omega)]
    · rw [if_neg h2, if_neg (by omega)]
theorem done_all (l : List Int) (n w : Nat) (x : List Int) (h : Done l n w n x) (hn : 0 < n ∨ n = 0) : x = split l n w := by
  apply List.ext_getElem
  · rw [h.1]; unfold split; simp
  · intro j h1 h2
    have hj : j < n * w := by rw [← h.1]; exact h1
    have hn : 0 < n := by
      rcases hn with h | h
      · exact h
      · subst h; omega
    have := h.2 j hj
    rw [if_pos (Nat.mod_lt _ hn), List.getD_eq_getElem?_getD, List.getElem?_eq_getElem h1] at this
    have e1 : x[j] = tgt l n w j := by simpa using this
    have e2 : (split l n w)[j] = tgt l n w j := by simp [split]
    exact e1.trans e2.symm
theorem done_zero (l : List Int) (n w : Nat) : Done l n w 0 (List.replicate (n * w) 0) := by
  refine ⟨by simp, fun j hj => ?_⟩
  rw [if_neg (by omega), List.getD_eq_getElem?_getD, List.getElem?_replicate, if_pos hj]; rfl


theorem rounds2 (l : List Int) (n : Nat) (hl : l.length = n * 2) (hb : l.length ≤ 4096) (d : Nat) : ∀ (i k : Nat) (x : List Int), i + d = n → d < k → Done l n 2 i x →
    encoding_encodeByteStreamSplitWidth2.l0 k x l (n : Int) (i : Int) = some (split l n 2) := by
  induction d with
  | zero =>
    intro i k x hi hk hx
    obtain ⟨k, rfl⟩ : ∃ m, k = m + 1 := ⟨k - 1, by omega⟩
    obtain rfl : i = n := by omega
    simp only [encoding_encodeByteStreamSplitWidth2.l0]
    rw [if_neg (by omega), done_all l i 2 x hx (by omega)]
  | succ d ih =>
    intro i k x hi hk hx
    obtain ⟨k, rfl⟩ : ∃ m, k = m + 1 := ⟨k - 1, by omega⟩
    have hxl := hx.1
    have hnext := ih (i + 1) k _ (by omega) (by omega) (done_step l n 2 i x hx (by omega))
    simp only [puts] at hnext
    have step : encoding_encodeByteStreamSplitWidth2.l0 (k + 1) x l (n : Int) (i : Int) = encoding_encodeByteStreamSplitWidth2.l0 k ((x.set i (l.getD (2 * i) 0)).set (n + i) (l.getD (2 * i + 1) 0)) l (n : Int) ((i + 1 : Nat) : Int) := by
      clear hnext ih hx
      have b_s0 : 2 * i ≤ 4096 := by omega
      have c_s0 : 2 * (i : Int) = ((2 * i : Nat) : Int) := by omega
      have b_s1 : 2 * i + 1 ≤ 4096 := by omega
      have c_s1 : ((2 * i : Nat) : Int) + 1 = ((2 * i + 1 : Nat) : Int) := by omega
      have b_p1 : n + i ≤ 4096 := by omega
      have c_p1 : (n : Int) + (i : Int) = ((n + i : Nat) : Int) := by omega
      have b_nx : i + 1 ≤ 4096 := by omega
      have c_nx : (i : Int) + 1 = ((i + 1 : Nat) : Int) := by omega
      have s0 : wrap64 (2 * (i : Int)) = ((2 * i : Nat) : Int) := by rw [c_s0]; exact sp_nat b_s0
      have s1 : wrap64 (((2 * i : Nat) : Int) + 1) = ((2 * i + 1 : Nat) : Int) := by rw [c_s1]; exact sp_nat b_s1
      have p1 : wrap64 ((n : Int) + (i : Int)) = ((n + i : Nat) : Int) := by rw [c_p1]; exact sp_nat b_p1
      have nx : wrap64 ((i : Int) + 1) = ((i + 1 : Nat) : Int) := by rw [c_nx]; exact sp_nat b_nx
      clear b_s0 c_s0 b_s1 c_s1 b_p1 c_p1 b_nx c_nx
      simp only [encoding_encodeByteStreamSplitWidth2.l0, s0, s1, p1, nx, sp_rd, Int.toNat_natCast]
      clear s0 s1 p1 nx
      rw [if_pos (by omega), if_pos (by omega), if_pos (by omega), if_pos (by omega), if_pos (by omega), if_pos (by omega), if_pos (by omega), if_pos (by omega), if_pos (by omega)]
    rw [step]
    have e0 : n * 0 + i = i := by omega
    have e1 : n * 1 + i = n + i := by omega
    have c0 : i * 2 + 0 = 2 * i := by omega
    have c1 : i * 2 + 1 = 2 * i + 1 := by omega
    rw [e0, e1, c0, c1] at hnext
    exact hnext


theorem rounds4 (l : List Int) (n : Nat) (hl : l.length = n * 4) (hb : l.length ≤ 4096) (d : Nat) : ∀ (i k : Nat) (x : List Int), i + d = n → d < k → Done l n 4 i x →
    encoding_encodeByteStreamSplitWidth4.l0 k x l (n : Int) (i : Int) = some (split l n 4) := by
  induction d with
  | zero =>
    intro i k x hi hk hx
    obtain ⟨k, rfl⟩ : ∃ m, k = m + 1 := ⟨k - 1, by omega⟩
    obtain rfl : i = n := by omega
    simp only [encoding_encodeByteStreamSplitWidth4.l0]
    rw [if_neg (by omega), done_all l i 4 x hx (by omega)]
  | succ d ih =>
    intro i k x hi hk hx
    obtain ⟨k, rfl⟩ : ∃ m, k = m + 1 := ⟨k - 1, by omega⟩
    have hxl := hx.1
    have hnext := ih (i + 1) k _ (by omega) (by omega) (done_step l n 4 i x hx (by omega))
    simp only [puts] at hnext
    have step : encoding_encodeByteStreamSplitWidth4.l0 (k + 1) x l (n : Int) (i : Int) = encoding_encodeByteStreamSplitWidth4.l0 k ((((x.set i (l.getD (4 * i) 0)).set (n + i) (l.getD (4 * i + 1) 0)).set (n * 2 + i) (l.getD (4 * i + 2) 0)).set (n * 3 + i) (l.getD (4 * i + 3) 0)) l (n : Int) ((i + 1 : Nat) : Int) := by
      clear hnext ih hx
      have b_s0 : 4 * i ≤ 4096 := by omega
      have c_s0 : 4 * (i : Int) = ((4 * i : Nat) : Int) := by omega
      have b_s1 : 4 * i + 1 ≤ 4096 := by omega
      have c_s1 : ((4 * i : Nat) : Int) + 1 = ((4 * i + 1 : Nat) : Int) := by omega
      have b_s2 : 4 * i + 2 ≤ 4096 := by omega
      have c_s2 : ((4 * i : Nat) : Int) + 2 = ((4 * i + 2 : Nat) : Int) := by omega
      have b_s3 : 4 * i + 3 ≤ 4096 := by omega
      have c_s3 : ((4 * i : Nat) : Int) + 3 = ((4 * i + 3 : Nat) : Int) := by omega
      have b_p1 : n + i ≤ 4096 := by omega
      have c_p1 : (n : Int) + (i : Int) = ((n + i : Nat) : Int) := by omega
      have b_m2 : n * 2 ≤ 4096 := by omega
      have c_m2 : (n : Int) * 2 = ((n * 2 : Nat) : Int) := by omega
      have b_p2 : n * 2 + i ≤ 4096 := by omega
      have c_p2 : ((n * 2 : Nat) : Int) + (i : Int) = ((n * 2 + i : Nat) : Int) := by omega
      have b_m3 : n * 3 ≤ 4096 := by omega
      have c_m3 : (n : Int) * 3 = ((n * 3 : Nat) : Int) := by omega
      have b_p3 : n * 3 + i ≤ 4096 := by omega
      have c_p3 : ((n * 3 : Nat) : Int) + (i : Int) = ((n * 3 + i : Nat) : Int) := by omega
      have b_nx : i + 1 ≤ 4096 := by omega
      have c_nx : (i : Int) + 1 = ((i + 1 : Nat) : Int) := by omega
      have s0 : wrap64 (4 * (i : Int)) = ((4 * i : Nat) : Int) := by rw [c_s0]; exact sp_nat b_s0
      have s1 : wrap64 (((4 * i : Nat) : Int) + 1) = ((4 * i + 1 : Nat) : Int) := by rw [c_s1]; exact sp_nat b_s1
      have s2 : wrap64 (((4 * i : Nat) : Int) + 2) = ((4 * i + 2 : Nat) : Int) := by rw [c_s2]; exact sp_nat b_s2
      have s3 : wrap64 (((4 * i : Nat) : Int) + 3) = ((4 * i + 3 : Nat) : Int) := by rw [c_s3]; exact sp_nat b_s3
      have p1 : wrap64 ((n : Int) + (i : Int)) = ((n + i : Nat) : Int) := by rw [c_p1]; exact sp_nat b_p1
      have m2 : wrap64 ((n : Int) * 2) = ((n * 2 : Nat) : Int) := by rw [c_m2]; exact sp_nat b_m2
      have p2 : wrap64 (((n * 2 : Nat) : Int) + (i : Int)) = ((n * 2 + i : Nat) : Int) := by rw [c_p2]; exact sp_nat b_p2
      have m3 : wrap64 ((n : Int) * 3) = ((n * 3 : Nat) : Int) := by rw [c_m3]; exact sp_nat b_m3
      have p3 : wrap64 (((n * 3 : Nat) : Int) + (i : Int)) = ((n * 3 + i : Nat) : Int) := by rw [c_p3]; exact sp_nat b_p3
      have nx : wrap64 ((i : Int) + 1) = ((i + 1 : Nat) : Int) := by rw [c_nx]; exact sp_nat b_nx
      clear b_s0 c_s0 b_s1 c_s1 b_s2 c_s2 b_s3 c_s3 b_p1 c_p1 b_m2 c_m2 b_p2 c_p2 b_m3 c_m3 b_p3 c_p3 b_nx c_nx
      simp only [encoding_encodeByteStreamSplitWidth4.l0, s0, s1, s2, s3, p1, m2, p2, m3, p3, nx, sp_rd, Int.toNat_natCast]
      clear s0 s1 s2 s3 p1 m2 p2 m3 p3 nx
      rw [if_pos (by omega), if_pos (by omega), if_pos (by omega), if_pos (by omega), if_pos (by omega), if_pos (by omega), if_pos (by omega), if_pos (by omega), if_pos (by omega), if_pos (by omega), if_pos (by omega), if_pos (by omega), if_pos (by omega), if_pos (by omega), if_pos (by omega), if_pos (by omega), if_pos (by omega)]
    rw [step]
    have e0 : n * 0 + i = i := by omega
    have e1 : n * 1 + i = n + i := by omega
    have c0 : i * 4 + 0 = 4 * i := by omega
    have c1 : i * 4 + 1 = 4 * i + 1 := by omega
    have c2 : i * 4 + 2 = 4 * i + 2 := by omega
    have c3 : i * 4 + 3 = 4 * i + 3 := by omega
    rw [e0, e1, c0, c1, c2, c3] at hnext
    exact hnext


theorem rounds8 (l : List Int) (n : Nat) (hl : l.length = n * 8) (hb : l.length ≤ 4096) (d : Nat) : ∀ (i k : Nat) (x : List Int), i + d = n → d < k → Done l n 8 i x →
    encoding_encodeByteStreamSplitWidth8.l0 k x l (n : Int) (i : Int) = some (split l n 8) := by
  induction d with
  | zero =>
    intro i k x hi hk hx
    obtain ⟨k, rfl⟩ : ∃ m, k = m + 1 := ⟨k - 1, by omega⟩
    obtain rfl : i = n := by omega
    simp only [encoding_encodeByteStreamSplitWidth8.l0]
    rw [if_neg (by omega), done_all l i 8 x hx (by omega)]
  | succ d ih =>
    intro i k x hi hk hx
    obtain ⟨k, rfl⟩ : ∃ m, k = m + 1 := ⟨k - 1, by omega⟩
    have hxl := hx.1
    have hnext := ih (i + 1) k _ (by omega) (by omega) (done_step l n 8 i x hx (by omega))
    simp only [puts] at hnext
    have step : encoding_encodeByteStreamSplitWidth8.l0 (k + 1) x l (n : Int) (i : Int) = encoding_encodeByteStreamSplitWidth8.l0 k ((((((((x.set i (l.getD (8 * i) 0)).set (n + i) (l.getD (8 * i + 1) 0)).set (n * 2 + i) (l.getD (8 * i + 2) 0)).set (n * 3 + i) (l.getD (8 * i + 3) 0)).set (n * 4 + i) (l.getD (8 * i + 4) 0)).set (n * 5 + i) (l.getD (8 * i + 5) 0)).set (n * 6 + i) (l.getD (8 * i + 6) 0)).set (n * 7 + i) (l.getD (8 * i + 7) 0)) l (n : Int) ((i + 1 : Nat) : Int) := by
      clear hnext ih hx
      have b_s0 : 8 * i ≤ 4096 := by omega
      have c_s0 : 8 * (i : Int) = ((8 * i : Nat) : Int) := by omega
      have b_s1 : 8 * i + 1 ≤ 4096 := by omega
      have c_s1 : ((8 * i : Nat) : Int) + 1 = ((8 * i + 1 : Nat) : Int) := by omega
      have b_s2 : 8 * i + 2 ≤ 4096 := by omega
      have c_s2 : ((8 * i : Nat) : Int) + 2 = ((8 * i + 2 : Nat) : Int) := by omega
      have b_s3 : 8 * i + 3 ≤ 4096 := by omega
      have c_s3 : ((8 * i : Nat) : Int) + 3 = ((8 * i + 3 : Nat) : Int) := by omega
      have b_s4 : 8 * i + 4 ≤ 4096 := by omega
      have c_s4 : ((8 * i : Nat) : Int) + 4 = ((8 * i + 4 : Nat) : Int) := by omega
      have b_s5 : 8 * i + 5 ≤ 4096 := by omega
      have c_s5 : ((8 * i : Nat) : Int) + 5 = ((8 * i + 5 : Nat) : Int) := by omega
      have b_s6 : 8 * i + 6 ≤ 4096 := by omega
      have c_s6 : ((8 * i : Nat) : Int) + 6 = ((8 * i + 6 : Nat) : Int) := by omega
      have b_s7 : 8 * i + 7 ≤ 4096 := by omega
      have c_s7 : ((8 * i : Nat) : Int) + 7 = ((8 * i + 7 : Nat) : Int) := by omega
      have b_p1 : n + i ≤ 4096 := by omega
      have c_p1 : (n : Int) + (i : Int) = ((n + i : Nat) : Int) := by omega
      have b_m2 : n * 2 ≤ 4096 := by omega
      have c_m2 : (n : Int) * 2 = ((n * 2 : Nat) : Int) := by omega
      have b_p2 : n * 2 + i ≤ 4096 := by omega
      have c_p2 : ((n * 2 : Nat) : Int) + (i : Int) = ((n * 2 + i : Nat) : Int) := by omega
      have b_m3 : n * 3 ≤ 4096 := by omega
      have c_m3 : (n : Int) * 3 = ((n * 3 : Nat) : Int) := by omega
      have b_p3 : n * 3 + i ≤ 4096 := by omega
      have c_p3 : ((n * 3 : Nat) : Int) + (i : Int) = ((n * 3 + i : Nat) : Int) := by omega
      have b_m4 : n * 4 ≤ 4096 := by omega
      have c_m4 : (n : Int) * 4 = ((n * 4 : Nat) : Int) := by omega
      have b_p4 : n * 4 + i ≤ 4096 := by omega
      have c_p4 : ((n * 4 : Nat) : Int) + (i : Int) = ((n * 4 + i : Nat) : Int) := by omega
      have b_m5 : n * 5 ≤ 4096 := by omega
      have c_m5 : (n : Int) * 5 = ((n * 5 : Nat) : Int) := by omega
      have b_p5 : n * 5 + i ≤ 4096 := by omega
      have c_p5 : ((n * 5 : Nat) : Int) + (i : Int) = ((n * 5 + i : Nat) : Int) := by omega
      have b_m6 : n * 6 ≤ 4096 := by omega
      have c_m6 : (n : Int) * 6 = ((n * 6 : Nat) : Int) := by omega
      have b_p6 : n * 6 + i ≤ 4096 := by omega
      have c_p6 : ((n * 6 : Nat) : Int) + (i : Int) = ((n * 6 + i : Nat) : Int) := by omega
      have b_m7 : n * 7 ≤ 4096 := by omega
      have c_m7 : (n : Int) * 7 = ((n * 7 : Nat) : Int) := by omega
      have b_p7 : n * 7 + i ≤ 4096 := by omega
      have c_p7 : ((n * 7 : Nat) : Int) + (i : Int) = ((n * 7 + i : Nat) : Int) := by omega
      have b_nx : i + 1 ≤ 4096 := by omega
      have c_nx : (i : Int) + 1 = ((i + 1 : Nat) : Int) := by omega
      have s0 : wrap64 (8 * (i : Int)) = ((8 * i : Nat) : Int) := by rw [c_s0]; exact sp_nat b_s0
      have s1 : wrap64 (((8 * i : Nat) : Int) + 1) = ((8 * i + 1 : Nat) : Int) := by rw [c_s1]; exact sp_nat b_s1
      have s2 : wrap64 (((8 * i : Nat) : Int) + 2) = ((8 * i + 2 : Nat) : Int) := by rw [c_s2]; exact sp_nat b_s2
      have s3 : wrap64 (((8 * i : Nat) : Int) + 3) = ((8 * i + 3 : Nat) : Int) := by rw [c_s3]; exact sp_nat b_s3
      have s4 : wrap64 (((8 * i : Nat) : Int) + 4) = ((8 * i + 4 : Nat) : Int) := by rw [c_s4]; exact sp_nat b_s4
      have s5 : wrap64 (((8 * i : Nat) : Int) + 5) = ((8 * i + 5 : Nat) : Int) := by rw [c_s5]; exact sp_nat b_s5
      have s6 : wrap64 (((8 * i : Nat) : Int) + 6) = ((8 * i + 6 : Nat) : Int) := by rw [c_s6]; exact sp_nat b_s6
      have s7 : wrap64 (((8 * i : Nat) : Int) + 7) = ((8 * i + 7 : Nat) : Int) := by rw [c_s7]; exact sp_nat b_s7
      have p1 : wrap64 ((n : Int) + (i : Int)) = ((n + i : Nat) : Int) := by rw [c_p1]; exact sp_nat b_p1
      have m2 : wrap64 ((n : Int) * 2) = ((n * 2 : Nat) : Int) := by rw [c_m2]; exact sp_nat b_m2
      have p2 : wrap64 (((n * 2 : Nat) : Int) + (i : Int)) = ((n * 2 + i : Nat) : Int) := by rw [c_p2]; exact sp_nat b_p2
      have m3 : wrap64 ((n : Int) * 3) = ((n * 3 : Nat) : Int) := by rw [c_m3]; exact sp_nat b_m3
      have p3 : wrap64 (((n * 3 : Nat) : Int) + (i : Int)) = ((n * 3 + i : Nat) : Int) := by rw [c_p3]; exact sp_nat b_p3
      have m4 : wrap64 ((n : Int) * 4) = ((n * 4 : Nat) : Int) := by rw [c_m4]; exact sp_nat b_m4
      have p4 : wrap64 (((n * 4 : Nat) : Int) + (i : Int)) = ((n * 4 + i : Nat) : Int) := by rw [c_p4]; exact sp_nat b_p4
      have m5 : wrap64 ((n : Int) * 5) = ((n * 5 : Nat) : Int) := by rw [c_m5]; exact sp_nat b_m5
      have p5 : wrap64 (((n * 5 : Nat) : Int) + (i : Int)) = ((n * 5 + i : Nat) : Int) := by rw [c_p5]; exact sp_nat b_p5
      have m6 : wrap64 ((n : Int) * 6) = ((n * 6 : Nat) : Int) := by rw [c_m6]; exact sp_nat b_m6
      have p6 : wrap64 (((n * 6 : Nat) : Int) + (i : Int)) = ((n * 6 + i : Nat) : Int) := by rw [c_p6]; exact sp_nat b_p6
      have m7 : wrap64 ((n : Int) * 7) = ((n * 7 : Nat) : Int) := by rw [c_m7]; exact sp_nat b_m7
      have p7 : wrap64 (((n * 7 : Nat) : Int) + (i : Int)) = ((n * 7 + i : Nat) : Int) := by rw [c_p7]; exact sp_nat b_p7
      have nx : wrap64 ((i : Int) + 1) = ((i + 1 : Nat) : Int) := by rw [c_nx]; exact sp_nat b_nx
      clear b_s0 c_s0 b_s1 c_s1 b_s2 c_s2 b_s3 c_s3 b_s4 c_s4 b_s5 c_s5 b_s6 c_s6 b_s7 c_s7 b_p1 c_p1 b_m2 c_m2 b_p2 c_p2 b_m3 c_m3 b_p3 c_p3 b_m4 c_m4 b_p4 c_p4 b_m5 c_m5 b_p5 c_p5 b_m6 c_m6 b_p6 c_p6 b_m7 c_m7 b_p7 c_p7 b_nx c_nx
      simp only [encoding_encodeByteStreamSplitWidth8.l0, s0, s1, s2, s3, s4, s5, s6, s7, p1, m2, p2, m3, p3, m4, p4, m5, p5, m6, p6, m7, p7, nx, sp_rd, Int.toNat_natCast]
      clear s0 s1 s2 s3 s4 s5 s6 s7 p1 m2 p2 m3 p3 m4 p4 m5 p5 m6 p6 m7 p7 nx
      rw [if_pos (by omega), if_pos (by omega), if_pos (by omega), if_pos (by omega), if_pos (by omega), if_pos (by omega), if_pos (by omega), if_pos (by omega), if_pos (by omega), if_pos (by omega), if_pos (by omega), if_pos (by omega), if_pos (by omega), if_pos (by omega), if_pos (by omega), if_pos (by omega), if_pos (by omega), if_pos (by omega), if_pos (by omega), if_pos (by omega), if_pos (by omega), if_pos (by omega), if_pos (by omega), if_pos (by omega), if_pos (by omega), if_pos (by omega), if_pos (by omega), if_pos (by omega), if_pos (by omega), if_pos (by omega), if_pos (by omega), if_pos (by omega), if_pos (by omega)]
    rw [step]
    have e0 : n * 0 + i = i := by omega
    have e1 : n * 1 + i = n + i := by omega
    have c0 : i * 8 + 0 = 8 * i := by omega
    have c1 : i * 8 + 1 = 8 * i + 1 := by omega
    have c2 : i * 8 + 2 = 8 * i + 2 := by omega
    have c3 : i * 8 + 3 = 8 * i + 3 := by omega
    have c4 : i * 8 + 4 = 8 * i + 4 := by omega
    have c5 : i * 8 + 5 = 8 * i + 5 := by omega
    have c6 : i * 8 + 6 = 8 * i + 6 := by omega
    have c7 : i * 8 + 7 = 8 * i + 7 := by omega
    rw [e0, e1, c0, c1, c2, c3, c4, c5, c6, c7] at hnext
    exact hnext


theorem n_le {n w : Nat} (hw : 1 ≤ w) (h : n * w ≤ 4096) : n ≤ 4096 := by
  have := Nat.le_mul_of_pos_right n (show 0 < w by omega)
  omega

/-- What the program's splitter answers. -/
theorem impl_wide (l : List Int) (n w : Nat) (hl : l.length = n * w) (hb : l.length ≤ 4096) (hw0 : 1 ≤ w) (hw : w ≤ 32) (k : Nat) (hk : 150000 < k) :
    encoding_encodeByteStreamSplit.f k (List.replicate (n * w) 0) l (w : Int) = some (split l n w) := by
  have hn : n ≤ 4096 := n_le hw0 (by omega)
  obtain ⟨k, rfl⟩ : ∃ m, k = m + 1 := ⟨k - 1, by omega⟩
  have hm : w * (n + 2) ≤ 32 * 4098 := Nat.mul_le_mul hw (by omega)
  have h := impl_lanes l n w hl (by omega) hw w 0 (k - w * (n + 2)) (by omega)
  have hp : part l n w (n * 0) = List.replicate (n * w) 0 := by unfold part; simp
  rw [hp] at h
  generalize w * (n + 2) = q at hm h
  rw [show k - q + q = k by omega] at h
  have hne : ¬ (w : Int) = 0 := by omega
  have e : wrap64 ((l.length : Int) / (w : Int)) = (n : Int) := by
    rw [hl, ← Int.natCast_ediv, Nat.mul_div_cancel _ (by omega), sp_nat hn]
  unfold encoding_encodeByteStreamSplit.f
  rw [if_neg hne, e]
  exact h

theorem impl_any (l : List Int) (n w : Nat) (hl : l.length = n * w) (hb : l.length ≤ 4096) (hw0 : 1 ≤ w) (hw : w ≤ 32) (k : Nat) (hk : 150000 < k) :
    encoding_EncodeByteStreamSplit.f k (List.replicate (n * w) 0) l (w : Int) = some (split l n w) := by
  have hn : n ≤ 4096 := n_le hw0 (by omega)
  have hnk : n < k := by omega
  unfold encoding_EncodeByteStreamSplit.f
  by_cases h2 : w = 2
  · subst h2
    have e : wrap64 ((l.length : Int) / 2) = (n : Int) := by
      rw [sp_w (by omega) (by omega)]; omega
    rw [if_pos (show ((2 : Nat) : Int) = 2 from rfl)]
    unfold encoding_encodeByteStreamSplitWidth2.f
    rw [e]
    have h := rounds2 l n hl hb n 0 k _ (Nat.zero_add n) hnk (done_zero l n 2)
    rw [Int.natCast_zero] at h
    rw [h]; rfl
  · rw [if_neg (by omega)]
    by_cases h4 : w = 4
    · subst h4
      have e : wrap64 ((l.length : Int) / 4) = (n : Int) := by
        rw [sp_w (by omega) (by omega)]; omega
      rw [if_pos (show ((4 : Nat) : Int) = 4 from rfl)]
      unfold encoding_encodeByteStreamSplitWidth4.f
      rw [e]
      have h := rounds4 l n hl hb n 0 k _ (Nat.zero_add n) hnk (done_zero l n 4)
      rw [Int.natCast_zero] at h
      rw [h]; rfl
    · rw [if_neg (by omega)]
      by_cases h8 : w = 8
      · subst h8
        have e : wrap64 ((l.length : Int) / 8) = (n : Int) := by
          rw [sp_w (by omega) (by omega)]; omega
        rw [if_pos (show ((8 : Nat) : Int) = 8 from rfl)]
        unfold encoding_encodeByteStreamSplitWidth8.f
        rw [e]
        have h := rounds8 l n hl hb n 0 k _ (Nat.zero_add n) hnk (done_zero l n 8)
        rw [Int.natCast_zero] at h
        rw [h]; rfl
      · rw [if_neg (by omega), impl_wide l n w hl hb hw0 hw k hk]; rfl

theorem impl_ev (l : List Int) (n w : Nat) (hl : l.length = n * w) (hb : l.length ≤ 4096) (hw0 : 1 ≤ w) (hw : w ≤ 32) : impl_Split.f l (w : Int) = some (split l n w, true) := by
  unfold impl_Split.f
  rw [if_pos hb, hl, impl_any l n w hl hb hw0 hw _ (by omega)]; rfl

theorem same_self (l : List Int) : laws_sameBytes.f l l = some true := by unfold laws_sameBytes.f; simp

theorem fnSplit_pure : laws_FnSplit.Pure := by
  intro l0 a1 _ _ h0 h1
  refine ⟨300000, ?_⟩
  unfold laws_FnSplit.f
  by_cases hbig : (l0.length : Int) > 2147483647
  · rw [if_pos hbig]
  · rw [if_neg hbig]
    have first : impl_Split.f [1, 2, 3, 4] 2 = some ([1, 3, 2, 4], true) := impl_ev [1, 2, 3, 4] 2 2 rfl (by decide) (by decide) (by decide)
    rw [first]
    simp only [Option.bind_some]
    rw [if_pos trivial, same_self]
    simp only [Option.bind_some]
    rw [show (300000 : Nat) = 299998 + 1 + 1 from rfl]
    simp only [laws_FnSplit.j0, laws_FnSplit.j1]
    by_cases c1 : a1 < 1
    · rw [if_pos c1, if_pos trivial]
    · rw [if_neg c1]
      by_cases c2 : a1 > 32
      · rw [if_pos c2, if_pos trivial]
      · rw [if_neg c2, if_neg (by omega)]
        by_cases c3 : (l0.length : Int) % a1 = 0
        · rw [if_pos c3]
          by_cases c4 : (l0.length : Int) > 4096
          · rw [if_pos (decide_eq_true c4)]
          · rw [if_neg (by simpa using c4)]
            obtain ⟨w, rfl⟩ : ∃ w : Nat, a1 = (w : Int) := ⟨a1.toNat, by omega⟩
            have hd : l0.length % w = 0 := by
              have : ((l0.length % w : Nat) : Int) = 0 := by rw [Int.natCast_emod]; exact c3
              omega
            have hl : l0.length = (l0.length / w) * w := by
              have := Nat.div_add_mod l0.length w
              rw [hd, Nat.mul_comm] at this
              omega
            rw [impl_ev l0 (l0.length / w) w hl (by omega) (by omega) (by omega)]
            simp only [Option.bind_some]
            rw [if_pos trivial, spec_ev l0 (l0.length / w) w hl (by omega) (by omega) (by omega) _ (by omega)]
            simp only [Option.bind_some]
            rw [same_self]
            simp
        · rw [if_neg c3, if_pos trivial]
end Go.Proofs.Ytnjniacohbeonaa.Q
namespace Go.Proofs.Ytnjniacohbeonaa.Pure
theorem FnSplit : Go.Proofs.Ytnjniacohbeonaa.Q.laws_FnSplit.Pure := Go.Proofs.Ytnjniacohbeonaa.Q.fnSplit_pure
end Go.Proofs.Ytnjniacohbeonaa.Pure
