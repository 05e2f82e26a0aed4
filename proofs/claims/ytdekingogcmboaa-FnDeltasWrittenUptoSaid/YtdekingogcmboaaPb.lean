/- Blocks of differences, plainly. -/
import Derived.Test.YtdekingogcmboaaPa
import Derived.Test.YtdekingogcmboaaMA
namespace Go.Proofs.Ytdekingogcmboaa.Q
set_option linter.unusedVariables false
set_option linter.unusedSimpArgs false
def minL (ds : List Int) : Int := ds.foldl (fun m d => if d < m then d else m) 9223372036854775807
def maxL (c : List Int) : Int := c.foldl (fun m v => if m > v then m else v) (-9223372036854775808)
/-- Numbers of 64 bits. -/
def Fit (l : List Int) : Prop := ∀ x ∈ l, -9223372036854775808 ≤ x ∧ x ≤ 9223372036854775807
def wid (mn : Int) (c : List Int) : Nat := if c = [] then 0 else Lib.bitLen (maxL c - mn).toNat
def vals (mn : Int) (c : List Int) : List Nat := c.map fun v => (v - mn).toNat
def body (mn : Int) (c : List Int) : List Int := toB (4 * wid mn c) (pack (wid mn c) (vals mn c))
def chunk (ds : List Int) (i : Nat) : List Int := (ds.drop (32 * i)).take 32
def wids (mn : Int) (ds : List Int) (i : Nat) : List Int := (List.range 4).map fun j => if j < i then ((wid mn (chunk ds j) : Nat) : Int) else 0
def bodies (mn : Int) (ds : List Int) (i : Nat) : List Int := (List.range i).flatMap fun j => body mn (chunk ds j)
def block (ds : List Int) : List Int := leb (zz (minL ds)) ++ wids (minL ds) ds 4 ++ bodies (minL ds) ds 4
theorem minL_snoc (ds : List Int) (d : Int) : minL (ds ++ [d]) = if d < minL ds then d else minL ds := by unfold minL; rw [List.foldl_append]; rfl
theorem maxL_snoc (ds : List Int) (d : Int) : maxL (ds ++ [d]) = if maxL ds > d then maxL ds else d := by unfold maxL; rw [List.foldl_append]; rfl
theorem snoc_ind {P : List Int → Prop} (h0 : P []) (h1 : ∀ l x, P l → P (l ++ [x])) (l : List Int) : P l := by
  have : ∀ r : List Int, P r.reverse := by
    intro r
    induction r with
    | nil => exact h0
    | cons x r ih => rw [List.reverse_cons]; exact h1 _ _ ih
  have := this l.reverse
  rwa [List.reverse_reverse] at this
theorem minL_is (ds : List Int) (h : Fit ds) : (-9223372036854775808 ≤ minL ds ∧ minL ds ≤ 9223372036854775807) ∧ (∀ d ∈ ds, minL ds ≤ d) ∧ (ds ≠ [] → minL ds ∈ ds) := by
  revert h
  refine snoc_ind (P := fun ds => Fit ds → (-9223372036854775808 ≤ minL ds ∧ minL ds ≤ 9223372036854775807) ∧ (∀ d ∈ ds, minL ds ≤ d) ∧ (ds ≠ [] → minL ds ∈ ds)) ?_ ?_ ds
  · intro _; simp [minL]
  · intro l x ih h
    have hl : Fit l := fun y hy => h y (List.mem_append_left _ hy)
    have hx := h x (by simp)
    obtain ⟨i1, i2, i3⟩ := ih hl
    rw [minL_snoc]
    refine ⟨by split <;> omega, fun d hd => ?_, fun _ => ?_⟩
    · rcases List.mem_append.1 hd with hd | hd
      · have := i2 d hd; split <;> omega
      · have : d = x := by simpa using hd
        subst this; split <;> omega
    · by_cases c : x < minL l
      · rw [if_pos c]; simp
      · rw [if_neg c]
        by_cases hn : l = []
        · subst hn
          have : x = minL [] := by have h2 : minL [] = 9223372036854775807 := rfl; omega
          simp [← this]
        · exact List.mem_append_left _ (i3 hn)
theorem maxL_is (ds : List Int) (h : Fit ds) : (-9223372036854775808 ≤ maxL ds ∧ maxL ds ≤ 9223372036854775807) ∧ (∀ d ∈ ds, d ≤ maxL ds) ∧ (ds ≠ [] → maxL ds ∈ ds) := by
  revert h
  refine snoc_ind (P := fun ds => Fit ds → (-9223372036854775808 ≤ maxL ds ∧ maxL ds ≤ 9223372036854775807) ∧ (∀ d ∈ ds, d ≤ maxL ds) ∧ (ds ≠ [] → maxL ds ∈ ds)) ?_ ?_ ds
  · intro _; simp [maxL]
  · intro l x ih h
    have hl : Fit l := fun y hy => h y (List.mem_append_left _ hy)
    have hx := h x (by simp)
    obtain ⟨i1, i2, i3⟩ := ih hl
    rw [maxL_snoc]
    refine ⟨by split <;> omega, fun d hd => ?_, fun _ => ?_⟩
    · rcases List.mem_append.1 hd with hd | hd
      · have := i2 d hd; split <;> omega
      · have : d = x := by simpa using hd
        subst this; split <;> omega
    · by_cases c : maxL l > x
      · rw [if_pos c]
        by_cases hn : l = []
        · subst hn
          have h2 : maxL [] = -9223372036854775808 := rfl
          omega
        · exact List.mem_append_left _ (i3 hn)
      · rw [if_neg c]; simp
theorem chunk_fit {ds : List Int} (h : Fit ds) (i : Nat) : Fit (chunk ds i) := fun x hx => h x (List.mem_of_mem_drop (List.mem_of_mem_take hx))
theorem chunk_len (ds : List Int) (i : Nat) : (chunk ds i).length = min 32 (ds.length - 32 * i) := by simp [chunk]
/-- What a chunk's numbers are above the least one. -/
theorem chunk_vals {mn : Int} {c : List Int} (hf : Fit c) (hm : ∀ d ∈ c, mn ≤ d) (h0 : -9223372036854775808 ≤ mn) : (∀ v ∈ vals mn c, v < 2 ^ wid mn c) ∧ wid mn c ≤ 64 := by
  by_cases hn : c = []
  · subst hn; simp [vals, wid]
  · obtain ⟨m1, m2, m3⟩ := maxL_is c hf
    have m3 := m3 hn
    have hmm := hm _ m3
    have hb : (maxL c - mn).toNat < 2 ^ 64 := by omega
    unfold wid
    rw [if_neg hn]
    refine ⟨fun v hv => ?_, Lib.bitLen_le (maxL c - mn).toNat 64 (by omega) hb⟩
    obtain ⟨d, hd, rfl⟩ := List.mem_map.1 hv
    have h1 := bitLen_lt _ hb
    have h2 := m2 d hd
    have h3 := hm d hd
    have : (d - mn).toNat ≤ (maxL c - mn).toNat := by omega
    omega
theorem bodies_succ (mn : Int) (ds : List Int) (i : Nat) : bodies mn ds (i + 1) = bodies mn ds i ++ body mn (chunk ds i) := by
  simp [bodies, List.range_succ]
theorem wids_len (mn : Int) (ds : List Int) (i : Nat) : (wids mn ds i).length = 4 := by simp [wids]
theorem wids_zero (mn : Int) (ds : List Int) : wids mn ds 0 = [0, 0, 0, 0] := by simp [wids, List.range_succ]
theorem wids_succ (mn : Int) (ds : List Int) (i : Nat) (hi : i < 4) : wids mn ds (i + 1) = (wids mn ds i).set i ((wid mn (chunk ds i) : Nat) : Int) := by
  match i, hi with
  | 0, _ => simp [wids, List.range_succ]
  | 1, _ => simp [wids, List.range_succ]
  | 2, _ => simp [wids, List.range_succ]
  | 3, _ => simp [wids, List.range_succ]
/-- Behind the last chunk nothing comes. -/
theorem chunk_none (ds : List Int) (i : Nat) (h : ds.length ≤ 32 * i) : chunk ds i = [] := by
  have := chunk_len ds i
  exact List.eq_nil_of_length_eq_zero (by omega)
theorem wids_end (mn : Int) (ds : List Int) (i : Nat) (h : ds.length ≤ 32 * i) (hi : i ≤ 4) : wids mn ds i = wids mn ds 4 := by
  unfold wids
  apply List.map_congr_left
  intro j hj
  have hj4 : j < 4 := List.mem_range.1 hj
  by_cases c : j < i
  · rw [if_pos c, if_pos hj4]
  · rw [if_neg c, if_pos hj4, chunk_none ds j (by omega)]
    simp [wid]
theorem bodies_end (mn : Int) (ds : List Int) (i k : Nat) (h : ds.length ≤ 32 * i) : bodies mn ds (i + k) = bodies mn ds i := by
  induction k with
  | zero => rfl
  | succ k ih =>
    rw [show i + (k + 1) = (i + k) + 1 by omega, bodies_succ, ih, chunk_none ds (i + k) (by omega)]
    simp [body, wid, toB]
theorem body_len (mn : Int) (c : List Int) : (body mn c).length = 4 * wid mn c := toB_len _ _
end Go.Proofs.Ytdekingogcmboaa.Q
