/- Numbers written in digits of base 2^32, the lowest first: plain lemmas on lists of whole numbers, with no Go in sight. -/
namespace Go.Proofs.Ytnjniacohbeonaa.Nv

/-- What digits are worth. -/
def nv : List Int → Int
  | [] => 0
  | x :: l => x + 4294967296 * nv l
/-- All are digits. -/
def Dg (l : List Int) : Prop := ∀ x ∈ l, 0 ≤ x ∧ x < 4294967296
/-- The base's powers. -/
def pw : Nat → Int
  | 0 => 1
  | n + 1 => 4294967296 * pw n
/-- No zero at the end. -/
def Nz (l : List Int) : Prop := ∀ x l', l = l' ++ [x] → x ≠ 0

theorem pw_pos : ∀ n, 0 < pw n
  | 0 => by decide
  | n + 1 => by have := pw_pos n; unfold pw; omega
theorem pw_succ (n : Nat) : pw (n + 1) = 4294967296 * pw n := rfl
theorem pw_add (m : Nat) : ∀ n, pw (m + n) = pw m * pw n
  | 0 => by simp [pw]
  | n + 1 => by
    have := pw_add m n
    show 4294967296 * pw (m + n) = pw m * (4294967296 * pw n)
    rw [this]; grind
theorem pw_mono {m n : Nat} (h : m ≤ n) : pw m ≤ pw n := by
  obtain ⟨d, rfl⟩ : ∃ d, n = m + d := ⟨n - m, by omega⟩
  induction d with
  | zero => exact Int.le_refl _
  | succ d ih => have := ih (by omega); have := pw_pos (m + d); show pw m ≤ 4294967296 * pw (m + d); omega

theorem dg_nil : Dg [] := fun x h => by simp at h
theorem dg_cons {x : Int} {l : List Int} (h : Dg (x :: l)) : 0 ≤ x ∧ x < 4294967296 ∧ Dg l :=
  ⟨(h x (by simp)).1, (h x (by simp)).2, fun y hy => h y (by simp [hy])⟩
theorem dg_append {l m : List Int} (h : Dg l) (k : Dg m) : Dg (l ++ m) := fun x hx => by
  rcases List.mem_append.1 hx with hx | hx
  · exact h x hx
  · exact k x hx
theorem dg_one {x : Int} (h0 : 0 ≤ x) (h1 : x < 4294967296) : Dg [x] := fun y hy => by simp at hy; subst hy; exact ⟨h0, h1⟩
theorem dg_take {l : List Int} (h : Dg l) (n : Nat) : Dg (l.take n) := fun x hx => h x (List.mem_of_mem_take hx)
theorem dg_drop {l : List Int} (h : Dg l) (n : Nat) : Dg (l.drop n) := fun x hx => h x (List.mem_of_mem_drop hx)
theorem dg_set {l : List Int} (h : Dg l) (j : Nat) {v : Int} (h0 : 0 ≤ v) (h1 : v < 4294967296) : Dg (l.set j v) := fun x hx => by
  rcases List.mem_or_eq_of_mem_set hx with hx | rfl
  · exact h x hx
  · exact ⟨h0, h1⟩
theorem dg_get {l : List Int} (h : Dg l) (j : Nat) : 0 ≤ l.getD j 0 ∧ l.getD j 0 < 4294967296 := by
  by_cases hj : j < l.length
  · rw [List.getD_eq_getElem?_getD, List.getElem?_eq_getElem hj]; exact h _ (List.getElem_mem hj)
  · rw [List.getD_eq_getElem?_getD, List.getElem?_eq_none (by omega)]; decide

theorem nv_append (l m : List Int) : nv (l ++ m) = nv l + pw l.length * nv m := by
  induction l with
  | nil => simp [nv, pw]
  | cons x l ih =>
    simp only [List.cons_append, nv, ih, List.length_cons, pw]
    grind
theorem nv_one (x : Int) : nv [x] = x := by simp [nv]
theorem nv_nonneg {l : List Int} (h : Dg l) : 0 ≤ nv l := by
  induction l with
  | nil => decide
  | cons x l ih => have := dg_cons h; have := ih this.2.2; unfold nv; omega
theorem nv_lt {l : List Int} (h : Dg l) : nv l < pw l.length := by
  induction l with
  | nil => decide
  | cons x l ih => have := dg_cons h; have := ih this.2.2; simp only [nv, List.length_cons, pw]; omega
theorem nv_split (l : List Int) (i : Nat) (h : i ≤ l.length) : nv l = nv (l.take i) + pw i * nv (l.drop i) := by
  have e := nv_append (l.take i) (l.drop i)
  rw [List.take_append_drop, List.length_take, Nat.min_eq_left h] at e
  exact e
theorem nv_drop (l : List Int) (i : Nat) (h : i < l.length) : nv (l.drop i) = l.getD i 0 + 4294967296 * nv (l.drop (i + 1)) := by
  rw [List.drop_eq_getElem_cons h, nv, List.getD_eq_getElem?_getD, List.getElem?_eq_getElem h]; rfl
theorem nv_take (l : List Int) (i : Nat) (h : i < l.length) : nv (l.take (i + 1)) = nv (l.take i) + pw i * l.getD i 0 := by
  rw [List.take_succ_eq_append_getElem h, nv_append, nv_one, List.length_take, Nat.min_eq_left (by omega), List.getD_eq_getElem?_getD, List.getElem?_eq_getElem h]; rfl
theorem nv_drop_all (l : List Int) (i : Nat) (h : l.length ≤ i) : nv (l.drop i) = 0 := by rw [List.drop_eq_nil_of_le h]; rfl
theorem nv_replicate (n : Nat) : nv (List.replicate n 0) = 0 := by
  induction n with
  | zero => rfl
  | succ n ih => rw [List.replicate_succ, nv, ih]; rfl
theorem dg_replicate (n : Nat) : Dg (List.replicate n 0) := fun x hx => by
  have := List.eq_of_mem_replicate hx; subst this; decide
theorem nv_set (l : List Int) (j : Nat) (v : Int) (h : j < l.length) : nv (l.set j v) = nv l + pw j * (v - l.getD j 0) := by
  induction l generalizing j with
  | nil => simp at h
  | cons x l ih =>
    cases j with
    | zero => simp [nv, pw]; omega
    | succ j =>
      have := ih j (by simpa using h)
      simp only [List.set_cons_succ, nv, pw, this, List.getD_cons_succ]
      grind
theorem nv_snoc (l : List Int) (x : Int) : nv (l ++ [x]) = nv l + pw l.length * x := by rw [nv_append, nv_one]

/-- A list without a zero at the end is worth at least the power of its last place. -/
theorem nv_ge {l : List Int} (h : Dg l) (hz : Nz l) (hl : 0 < l.length) : pw (l.length - 1) ≤ nv l := by
  rcases List.eq_nil_or_concat l with rfl | ⟨l', x, e⟩
  · simp at hl
  · rw [List.concat_eq_append] at e
    subst e
    have hx := hz x l' rfl
    have hd := h x (by simp)
    have h0 := nv_nonneg (fun y hy => h y (by simp [hy]) : Dg l')
    rw [nv_snoc]
    simp only [List.length_append, List.length_cons, List.length_nil, Nat.zero_add, Nat.add_sub_cancel]
    have hp := pw_pos l'.length
    have : pw l'.length * 1 ≤ pw l'.length * x := Int.mul_le_mul_of_nonneg_left (by omega) (by omega)
    omega
theorem nz_nil : Nz [] := fun x l' h => by simp at h
theorem nv_pos {l : List Int} (h : Dg l) (hz : Nz l) (hl : 0 < l.length) : 0 < nv l := by
  have := nv_ge h hz hl; have := pw_pos (l.length - 1); omega
/-- Longer is greater. -/
theorem nv_long {l m : List Int} (hl : Dg l) (hm : Dg m) (hz : Nz m) (h : l.length < m.length) : nv l < nv m := by
  have h1 := nv_lt hl
  have h2 := nv_ge hm hz (by omega)
  have h3 : pw l.length ≤ pw (m.length - 1) := pw_mono (by omega)
  omega
theorem nz_len {l : List Int} (hl : Dg l) (hz : Nz l) (n : Nat) (h : nv l < pw n) : l.length ≤ n := by
  rcases Nat.lt_or_ge n l.length with hlt | hge
  · have h2 := nv_ge hl hz (by omega)
    have h3 : pw n ≤ pw (l.length - 1) := pw_mono (by omega)
    omega
  · exact hge
/-- The digits of a number: place j. -/
theorem nv_digit {l : List Int} (h : Dg l) (j : Nat) (hj : j < l.length) : nv l / pw j % 4294967296 = l.getD j 0 := by
  rw [nv_split l j (by omega), nv_drop l j hj]
  have h0 := nv_nonneg (dg_take h j)
  have h1 := nv_lt (dg_take h j)
  rw [List.length_take, Nat.min_eq_left (by omega)] at h1
  have hp := pw_pos j
  rw [Int.add_mul_ediv_left _ _ (by omega), Int.ediv_eq_zero_of_lt h0 h1]
  have := dg_get h j
  omega
end Go.Proofs.Ytnjniacohbeonaa.Nv
