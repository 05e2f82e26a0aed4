/- A table of hashes, plainly: probing, entries put in, all found again. -/
namespace Go.Proofs.YtiieljnllgeoeaaGreat.Q
set_option linter.unusedVariables false
set_option linter.unusedSimpArgs false
/-- An entry: the hash (0: none), the value, its number. -/
structure Ent where
 h : Nat
 val : Int
 idx : Int
deriving DecidableEq, Inhabited
def e0 : Ent := ⟨0, 0, 0⟩
/-- The search: the first place whose entry is asked for, or is none. -/
def lk : Nat → List Ent → Nat → (Int → Bool) → Nat → Nat → Option (Nat × Bool)
 | 0, _, _, _, _, _ => none
 | k + 1, es, v, q, i, pt =>
  let e := es.getD i e0
  if e.h = v ∧ q e.val = true then some (i, true) else if e.h = 0 then some (i, false) else lk k es v q ((i + pt) % es.length) (pt / 32 + 1)
/-- The places that a search comes to. -/
def pr (c v : Nat) : Nat → Nat × Nat
 | 0 => (v % c, v / 32 + 1)
 | n + 1 => (((pr c v n).1 + (pr c v n).2) % c, (pr c v n).2 / 32 + 1)
/-- A place that a search for a hash comes to, over entries alone. -/
def Path (es : List Ent) (v i : Nat) : Prop := ∃ n, (pr es.length v n).1 = i ∧ ∀ m, m < n → (es.getD (pr es.length v m).1 e0).h ≠ 0
theorem pr_lt (c v n : Nat) (h : 0 < c) : (pr c v n).1 < c := by
 cases n <;> exact Nat.mod_lt _ h
theorem pr_pt (c v n : Nat) : (pr c v n).2 ≤ v / 32 ^ (n + 1) + 2 ∧ 1 ≤ (pr c v n).2 := by
 induction n with
 | zero => simp [pr]
 | succ n ih =>
  simp only [pr]
  rw [Nat.pow_succ 32 (n + 1), ← Nat.div_div_eq_div_mul]
  omega
theorem pr_one (c v n : Nat) (h : v < 2 ^ 64) (hn : 12 ≤ n) : (pr c v (n + 1)).2 = 1 := by
 have h1 := (pr_pt c v n).1
 have h2 : v / 32 ^ (n + 1) = 0 := by
  apply Nat.div_eq_of_lt
  have : (32 : Nat) ^ 13 ≤ 32 ^ (n + 1) := Nat.pow_le_pow_right (by omega) (by omega)
  omega
 simp only [pr]
 omega
theorem pr_walk (c v : Nat) (hc : 0 < c) (h : v < 2 ^ 64) (j : Nat) : (pr c v (13 + j)).1 = ((pr c v 13).1 + j) % c := by
 induction j with
 | zero => simp [Nat.mod_eq_of_lt (pr_lt c v 13 hc)]
 | succ j ih =>
  have e := pr_one c v (12 + j) h (by omega)
  rw [show 12 + j + 1 = 13 + j by omega] at e
  rw [show 13 + (j + 1) = (13 + j) + 1 by omega]
  show ((pr c v (13 + j)).1 + (pr c v (13 + j)).2) % c = _
  rw [e, ih, Nat.mod_add_mod, Nat.add_assoc]
/-- Every place is come to. -/
theorem pr_all (c v i : Nat) (hc : 0 < c) (h : v < 2 ^ 64) (hi : i < c) : ∃ n, n ≤ 13 + c ∧ (pr c v n).1 = i := by
 have hl := pr_lt c v 13 hc
 by_cases q : (pr c v 13).1 ≤ i
 ·refine ⟨13 + (i - (pr c v 13).1), by omega, ?_⟩
  rw [pr_walk c v hc h, show (pr c v 13).1 + (i - (pr c v 13).1) = i by omega, Nat.mod_eq_of_lt hi]
 ·refine ⟨13 + (i + c - (pr c v 13).1), by omega, ?_⟩
  rw [pr_walk c v hc h, show (pr c v 13).1 + (i + c - (pr c v 13).1) = i + c by omega, Nat.add_mod_right, Nat.mod_eq_of_lt hi]
/-- A search that goes on, from a place that it has come to. -/
theorem lk_from (es : List Ent) (v : Nat) (q : Int → Bool) (n : Nat) (hit : Bool) (hv : v ≠ 0)
  (h1 : ∀ m, m < n → (es.getD (pr es.length v m).1 e0).h ≠ 0 ∧ ¬ ((es.getD (pr es.length v m).1 e0).h = v ∧ q (es.getD (pr es.length v m).1 e0).val = true))
  (h2 : if hit then (es.getD (pr es.length v n).1 e0).h = v ∧ q (es.getD (pr es.length v n).1 e0).val = true else (es.getD (pr es.length v n).1 e0).h = 0) (k d : Nat) (hd : d ≤ n) (hk : n - d < k) :
  lk k es v q (pr es.length v d).1 (pr es.length v d).2 = some ((pr es.length v n).1, hit) := by
 induction k generalizing d with
 | zero => omega
 | succ k ih =>
  simp only [lk]
  by_cases c : d = n
  ·subst c
   cases hit with
   | true => rw [if_pos (by simpa using h2)]
   | false =>
    have h2 : (es.getD (pr es.length v d).1 e0).h = 0 := by simpa using h2
    rw [if_neg (by rw [h2]; intro hh; exact hv hh.1.symm), if_pos h2]
  ·obtain ⟨g1, g2⟩ := h1 d (by omega)
   rw [if_neg g2, if_neg g1]
   exact ih (d + 1) (by omega) (by omega)
/-- The first of some places. -/
theorem first_of {P : Nat → Prop} (n : Nat) (h : P n) : ∃ m, m ≤ n ∧ P m ∧ ∀ j, j < m → ¬ P j := by
 induction n using Nat.strongRecOn with
 | _ n ih =>
  by_cases c : ∃ j, j < n ∧ P j
  ·obtain ⟨j, h1, h2⟩ := c
   obtain ⟨m, g1, g2, g3⟩ := ih j h1 h2
   exact ⟨m, by omega, g2, g3⟩
  ·exact ⟨n, Nat.le_refl _, h, fun j hj hp => c ⟨j, hj, hp⟩⟩
/-- What a table holds. -/
structure Inv (es : List Ent) (M : Ent → Prop) (n : Nat) : Prop where
 inn : ∀ e ∈ es, e.h ≠ 0 → M e
 out : ∀ e, M e → e.h ≠ 0 ∧ ∃ i, i < es.length ∧ Path es e.h i ∧ es.getD i e0 = e
 cnt : (es.filter (fun e => decide (e.h ≠ 0))).length ≤ n
theorem has_empty (es : List Ent) (h : (es.filter (fun e => decide (e.h ≠ 0))).length < es.length) : ∃ i, i < es.length ∧ (es.getD i e0).h = 0 := by
 induction es with
 | nil => simp at h
 | cons e es ih =>
  by_cases c : e.h = 0
  ·exact ⟨0, by simp, by simpa using c⟩
  ·rw [List.filter_cons, if_pos (by simpa using c)] at h
   obtain ⟨i, h1, h2⟩ := ih (by simpa using h)
   exact ⟨i + 1, by simpa using h1, by simpa using h2⟩
theorem getD_mem {es : List Ent} {i : Nat} (h : i < es.length) : es.getD i e0 ∈ es := by
 rw [List.getD_eq_getElem?_getD, List.getElem?_eq_getElem h]
 exact List.getElem_mem h
/-- A search for what is not there ends at a place that is free. -/
theorem lk_none {es : List Ent} {M : Ent → Prop} {n : Nat} (h : Inv es M n) (hn : n < es.length) (v : Nat) (q : Int → Bool) (hv : v ≠ 0) (hv2 : v < 2 ^ 64) (hq : ∀ e, M e → e.h = v → q e.val = false) (k : Nat) (hk : 14 + es.length ≤ k) :
  ∃ i, lk k es v q (v % es.length) (v / 32 + 1) = some (i, false) ∧ i < es.length ∧ Path es v i ∧ (es.getD i e0).h = 0 := by
 obtain ⟨i, hi, he⟩ := has_empty es (Nat.lt_of_le_of_lt h.cnt hn)
 obtain ⟨m, hm, hp⟩ := pr_all es.length v i (by omega) hv2 hi
 obtain ⟨m, g1, g2, g3⟩ := first_of (P := fun m => (es.getD (pr es.length v m).1 e0).h = 0) m (by rw [hp]; exact he)
 have hl := lk_from es v q m false hv (fun j hj => ⟨g3 j hj, fun hh => by
  have := hq _ (h.inn _ (getD_mem (pr_lt es.length v j (by omega))) (g3 j hj)) hh.1
  rw [this] at hh
  exact absurd hh.2 (by simp)⟩) (by simpa using g2) k 0 (by omega) (by omega)
 exact ⟨_, hl, pr_lt _ _ _ (by omega), ⟨m, rfl, g3⟩, g2⟩
/-- A search for what is there finds it, or its like. -/
theorem lk_some {es : List Ent} {M : Ent → Prop} {n : Nat} (h : Inv es M n) (e : Ent) (he : M e) (q : Int → Bool) (hq : q e.val = true) :
  ∃ k0, ∀ k, k0 ≤ k → ∃ i, lk k es e.h q (e.h % es.length) (e.h / 32 + 1) = some (i, true) ∧ i < es.length ∧ M (es.getD i e0) ∧ (es.getD i e0).h = e.h ∧ q (es.getD i e0).val = true := by
 obtain ⟨hv, i, hi, ⟨m, hp, hall⟩, hg⟩ := h.out e he
 obtain ⟨m', g1, g2, g3⟩ := first_of (P := fun m => (es.getD (pr es.length e.h m).1 e0).h = e.h ∧ q (es.getD (pr es.length e.h m).1 e0).val = true) m (by rw [hp, hg]; exact ⟨rfl, hq⟩)
 refine ⟨m' + 1, fun k hk => ⟨(pr es.length e.h m').1, ?_, pr_lt _ _ _ (by omega), ?_, g2.1, g2.2⟩⟩
 ·exact lk_from es e.h q m' true hv (fun j hj => ⟨hall j (by omega), g3 j hj⟩) (by simpa using g2) k 0 (by omega) (by omega)
 ·exact h.inn _ (getD_mem (pr_lt es.length e.h m' (by omega))) (by rw [g2.1]; exact hv)
/-- An entry is put in. -/
theorem inv_put {es : List Ent} {M : Ent → Prop} {n : Nat} (h : Inv es M n) (e : Ent) (i : Nat) (hi : i < es.length) (hp : Path es e.h i) (hf : (es.getD i e0).h = 0) (hv : e.h ≠ 0) : Inv (es.set i e) (fun x => M x ∨ x = e) (n + 1) := by
 have hset : ∀ j, j ≠ i → (es.set i e).getD j e0 = es.getD j e0 := fun j hj => by
  simp [List.getD_eq_getElem?_getD, List.getElem?_set, Ne.symm hj]
 have hat : (es.set i e).getD i e0 = e := by simp [List.getD_eq_getElem?_getD, hi]
 have hpath : ∀ v j, Path es v j → Path (es.set i e) v j := by
  rintro v j ⟨m, h1, h2⟩
  refine ⟨m, by simpa using h1, fun l hl => ?_⟩
  have := h2 l hl
  rw [List.length_set]
  by_cases c : (pr es.length v l).1 = i
  ·rw [c, hat]; exact hv
  ·rw [hset _ c]; exact this
 refine ⟨fun x hx h0 => ?_, fun x hx => ?_, ?_⟩
 ·rcases List.mem_or_eq_of_mem_set hx with hx | rfl
  ·exact .inl (h.inn x hx h0)
  ·exact .inr rfl
 ·rcases hx with hx | rfl
  ·obtain ⟨g1, j, g2, g3, g4⟩ := h.out x hx
   have : j ≠ i := by rintro rfl; rw [g4] at hf; exact g1 hf
   exact ⟨g1, j, by simpa using g2, hpath _ _ g3, by rw [hset j this]; exact g4⟩
  ·exact ⟨hv, i, by simpa using hi, hpath _ _ hp, hat⟩
 ·have hc : ∀ (l : List Ent) (i : Nat), ((l.set i e).filter (fun e => decide (e.h ≠ 0))).length ≤ (l.filter (fun e => decide (e.h ≠ 0))).length + 1 := by
   intro l
   induction l with
   | nil => intro i; simp
   | cons x l ih =>
    intro i
    cases i with
    | zero =>
     simp only [List.set_cons_zero, List.filter_cons]
     split <;> split <;> (try simp only [List.length_cons]) <;> omega
    | succ i =>
     have := ih i
     simp only [List.set_cons_succ, List.filter_cons]
     split <;> (try simp only [List.length_cons]) <;> omega
  have := hc es i
  have := h.cnt
  omega
theorem inv_none (c : Nat) : Inv (List.replicate c e0) (fun _ => False) 0 := by
 refine ⟨fun e he h => absurd (by rw [(List.mem_replicate.1 he).2]; rfl) h, fun _ h => h.elim, ?_⟩
 rw [List.filter_eq_nil_iff.2 (fun e he => by rw [(List.mem_replicate.1 he).2]; simp [e0])]
 exact Nat.le_refl _
theorem inv_iff {es : List Ent} {M M' : Ent → Prop} {n : Nat} (h : Inv es M n) (hm : ∀ e, M e ↔ M' e) : Inv es M' n :=
 ⟨fun e he h0 => (hm e).1 (h.inn e he h0), fun e he => h.out e ((hm e).2 he), h.cnt⟩
/-- All entries of one table into another. -/
def mv (k : Nat) : List Ent → List Ent → Option (List Ent)
 | [], ns => some ns
 | e :: es, ns => if e.h = 0 then mv k es ns else match lk k ns e.h (fun _ => false) (e.h % ns.length) (e.h / 32 + 1) with
  | some (i, _) => mv k es (ns.set i e)
  | none => none
theorem mv_is (k : Nat) (es : List Ent) : ∀ (ns : List Ent) (M : Ent → Prop) (n : Nat), Inv ns M n → n + (es.filter (fun e => decide (e.h ≠ 0))).length < ns.length → (∀ e ∈ es, e.h < 2 ^ 64) → 14 + ns.length ≤ k →
  ∃ ns', mv k es ns = some ns' ∧ ns'.length = ns.length ∧ Inv ns' (fun x => M x ∨ (x ∈ es ∧ x.h ≠ 0)) (n + (es.filter (fun e => decide (e.h ≠ 0))).length) := by
 induction es with
 | nil => intro ns M n h _ _ _; exact ⟨ns, rfl, rfl, inv_iff h (fun e => by simp)⟩
 | cons e es ih =>
  intro ns M n h hn hr hk
  simp only [mv]
  by_cases c : e.h = 0
  ·rw [if_pos c]
   rw [List.filter_cons, if_neg (by simpa using c)] at hn ⊢
   obtain ⟨ns', h1, h2, h3⟩ := ih ns M n h hn (fun x hx => hr x (List.mem_cons_of_mem _ hx)) hk
   refine ⟨ns', h1, h2, inv_iff h3 (fun x => ?_)⟩
   constructor
   ·rintro (hx | ⟨hx, h0⟩)
    ·exact .inl hx
    ·exact .inr ⟨List.mem_cons_of_mem _ hx, h0⟩
   ·rintro (hx | ⟨hx, h0⟩)
    ·exact .inl hx
    ·rcases List.mem_cons.1 hx with rfl | hx
     ·exact absurd c h0
     ·exact .inr ⟨hx, h0⟩
  ·rw [if_neg c]
   rw [List.filter_cons, if_pos (by simpa using c), List.length_cons] at hn ⊢
   obtain ⟨i, g1, g2, g3, g4⟩ := lk_none h (by omega) e.h (fun _ => false) c (hr e List.mem_cons_self) (fun _ _ _ => rfl) k hk
   rw [g1]
   obtain ⟨ns', h1, h2, h3⟩ := ih (ns.set i e) _ (n + 1) (inv_put h e i g2 g3 g4 c) (by rw [List.length_set]; omega) (fun x hx => hr x (List.mem_cons_of_mem _ hx)) (by rw [List.length_set]; exact hk)
   refine ⟨ns', h1, by rw [h2, List.length_set], ?_⟩
   rw [show n + ((es.filter (fun e => decide (e.h ≠ 0))).length + 1) = n + 1 + (es.filter (fun e => decide (e.h ≠ 0))).length by omega]
   refine inv_iff h3 (fun x => ?_)
   constructor
   ·rintro ((hx | rfl) | ⟨hx, h0⟩)
    ·exact .inl hx
    ·exact .inr ⟨List.mem_cons_self, c⟩
    ·exact .inr ⟨List.mem_cons_of_mem _ hx, h0⟩
   ·rintro (hx | ⟨hx, h0⟩)
    ·exact .inl (.inl hx)
    ·rcases List.mem_cons.1 hx with rfl | hx
     ·exact .inl (.inr rfl)
     ·exact .inr ⟨hx, h0⟩
/-- What the table of a memo holds: its values, each once, with their numbers. -/
def Mem (hh : Int → Nat) (D : List Int) (e : Ent) : Prop := ∃ k : Nat, D[k]? = some e.val ∧ e.idx = (k : Int) ∧ e.h = hh e.val
structure Tb (hh : Int → Nat) (es : List Ent) (D : List Int) : Prop where
 inv : Inv es (Mem hh D) D.length
 load : D.length * 2 < es.length
 pow : ∃ p, es.length = 2 ^ p
 nd : D.Nodup
/-- A value that is asked for or put in: its number, whether it was there, the table, how many there are. -/
def ins (k : Nat) (hh : Int → Nat) (es : List Ent) (n : Nat) (x : Int) : Option (Int × Bool × List Ent × Nat) :=
 match lk k es (hh x) (fun y => decide (x = y)) (hh x % es.length) (hh x / 32 + 1) with
 | none => none
 | some (i, true) => some ((es.getD i e0).idx, true, es, n)
 | some (i, false) =>
  let es1 := es.set i ⟨hh x, x, n⟩
  if es.length ≤ (n + 1) * 2 then match mv k es1 (List.replicate (es.length * 4) e0) with
   | some es2 => some (n, false, es2, n + 1)
   | none => none
  else some (n, false, es1, n + 1)
def more (D : List Int) (x : Int) : List Int := if x ∈ D then D else D ++ [x]
theorem idxOf_get {D : List Int} {x : Int} (h : x ∈ D) : D[D.idxOf x]? = some x := by
 rw [List.getElem?_eq_getElem (List.idxOf_lt_length_iff.2 h), List.getElem_idxOf]
theorem nodup_at {D : List Int} (h : D.Nodup) {i j : Nat} {x : Int} (hi : D[i]? = some x) (hj : D[j]? = some x) : i = j := by
 obtain ⟨h1, e1⟩ := List.getElem?_eq_some_iff.1 hi
 obtain ⟨h2, e2⟩ := List.getElem?_eq_some_iff.1 hj
 rcases Nat.lt_trichotomy i j with c | c | c
 ·exact absurd (e1.trans e2.symm) (List.pairwise_iff_getElem.1 h i j h1 h2 c)
 ·exact c
 ·exact absurd (e2.trans e1.symm) (List.pairwise_iff_getElem.1 h j i h2 h1 c)
theorem mem_snoc (hh : Int → Nat) (D : List Int) (x : Int) (e : Ent) : (Mem hh D e ∨ e = ⟨hh x, x, D.length⟩) ↔ Mem hh (D ++ [x]) e := by
 constructor
 ·rintro (⟨k, h1, h2, h3⟩ | rfl)
  ·refine ⟨k, ?_, h2, h3⟩
   have := (List.getElem?_eq_some_iff.1 h1).1
   rw [List.getElem?_append_left this, h1]
  ·exact ⟨D.length, by simp, rfl, rfl⟩
 ·rintro ⟨k, h1, h2, h3⟩
  rcases Nat.lt_trichotomy k D.length with c | c | c
  ·rw [List.getElem?_append_left c] at h1
   exact .inl ⟨k, h1, h2, h3⟩
  ·subst c
   have : x = e.val := by simpa using h1
   right
   cases e
   simp_all
  ·rw [List.getElem?_eq_none (by simp; omega)] at h1
   cases h1
theorem ins_is {hh : Int → Nat} (hp : ∀ x, hh x ≠ 0 ∧ hh x < 2 ^ 64) {es : List Ent} {D : List Int} (h : Tb hh es D) (x : Int) :
  ∃ k0, ∀ k, k0 ≤ k → ∃ es', ins k hh es D.length x = some (((D.idxOf x : Nat) : Int), decide (x ∈ D), es', (more D x).length) ∧ Tb hh es' (more D x) ∧ es'.length ≤ max es.length (8 * ((more D x).length)) := by
 by_cases hx : x ∈ D
 ·have hi := idxOf_get hx
  obtain ⟨k0, hk⟩ := lk_some h.inv ⟨hh x, x, ((D.idxOf x : Nat) : Int)⟩ ⟨D.idxOf x, hi, rfl, rfl⟩ (fun y => decide (x = y)) (by simp)
  refine ⟨k0, fun k hkk => ⟨es, ?_, by rw [more, if_pos hx]; exact h, by omega⟩⟩
  obtain ⟨i, g1, g2, ⟨j, m1, m2, m3⟩, g4, g5⟩ := hk k hkk
  unfold ins
  rw [g1]
  have e1 : x = (es.getD i e0).val := by simpa using g5
  rw [← e1] at m1
  have := nodup_at h.nd m1 hi
  subst this
  simp [hx, more, ← m2]
 ·have hm : more D x = D ++ [x] := by rw [more, if_neg hx]
  have hlen : (more D x).length = D.length + 1 := by rw [hm]; simp
  have hni : D.idxOf x = D.length := List.idxOf_eq_length hx
  have hnd : (D ++ [x]).Nodup := List.nodup_append.2 ⟨h.nd, by simp, fun a ha b hb => by simp at hb; subst hb; intro e; subst e; exact hx ha⟩
  have hload := h.load
  refine ⟨14 + es.length * 4, fun k hk => ?_⟩
  obtain ⟨i, g1, g2, g3, g4⟩ := lk_none h.inv (by omega) (hh x) (fun y => decide (x = y)) (hp x).1 (hp x).2 (fun e ⟨j, m1, _, _⟩ _ => by
   apply decide_eq_false
   intro c
   exact hx (c ▸ List.mem_of_getElem? m1)) k (by omega)
  have hput := inv_put h.inv ⟨hh x, x, D.length⟩ i g2 g3 g4 (hp x).1
  have hput2 := inv_iff hput (mem_snoc hh D x)
  unfold ins
  rw [g1]
  simp only []
  by_cases c : es.length ≤ (D.length + 1) * 2
  ·rw [if_pos c]
   obtain ⟨es2, f1, f2, f3⟩ := mv_is k (es.set i ⟨hh x, x, D.length⟩) (List.replicate (es.length * 4) e0) _ 0 (inv_none _) (by
    have := hput2.cnt
    rw [List.length_replicate]
    omega) (fun e he => by
    by_cases c0 : e.h = 0
    ·rw [c0]; exact Nat.two_pow_pos _
    ·obtain ⟨_, _, _, m3⟩ := hput2.inn e he c0
     rw [m3]; exact (hp _).2) (by rw [List.length_replicate]; omega)
   rw [f1]
   refine ⟨es2, by simp [hni, hx, hlen], ⟨?_, ?_, ?_, by rw [hm]; exact hnd⟩, by rw [f2, hlen]; simp; omega⟩
   ·have h3 : Inv es2 (Mem hh (more D x)) _ := inv_iff f3 (fun e => by
     rw [hm]
     constructor
     ·rintro (hf | ⟨he, h0⟩)
      ·exact hf.elim
      ·exact hput2.inn e he h0
     ·intro he
      obtain ⟨a1, j, a2, a3, a4⟩ := hput2.out e he
      exact .inr ⟨a4 ▸ getD_mem a2, a1⟩)
    have := hput2.cnt
    exact ⟨h3.inn, h3.out, Nat.le_trans h3.cnt (by rw [hlen]; omega)⟩
   ·rw [f2, hlen, List.length_replicate]; omega
   ·obtain ⟨p, e⟩ := h.pow
    exact ⟨p + 2, by rw [f2, List.length_replicate, e, Nat.pow_add]⟩
  ·rw [if_neg c]
   refine ⟨_, by simp [hni, hx, hlen]; rfl, ⟨?_, ?_, ?_, by rw [hm]; exact hnd⟩, by simp; omega⟩
   ·rw [hm]
    exact ⟨hput2.inn, hput2.out, by simpa using hput2.cnt⟩
   ·rw [hlen, List.length_set]; omega
   ·obtain ⟨p, e⟩ := h.pow
    exact ⟨p, by rw [List.length_set, e]⟩
/-- The bytes of all entries, each at its number's place. -/
def wr1 (out : List Int) (e : Ent) (b : Int → List Int) : List Int := if e.h = 0 then out else out.take (4 * e.idx.toNat) ++ b e.val ++ out.drop (4 * e.idx.toNat + 4)
def wrs (b : Int → List Int) (es : List Ent) (out : List Int) : List Int := es.foldl (fun o e => wr1 o e b) out
theorem wr1_len {b : Int → List Int} (hb : ∀ x, (b x).length = 4) (out : List Int) (e : Ent) (h : e.h ≠ 0 → 4 * e.idx.toNat + 4 ≤ out.length) : (wr1 out e b).length = out.length := by
 unfold wr1
 split
 ·rfl
 ·rename_i c
  have := h c
  simp [hb]; omega
theorem wr1_at {b : Int → List Int} (hb : ∀ x, (b x).length = 4) (out : List Int) (e : Ent) (h : e.h ≠ 0 → 4 * e.idx.toNat + 4 ≤ out.length) (k j : Nat) (hj : j < 4) :
  (wr1 out e b)[4 * k + j]? = if e.h ≠ 0 ∧ e.idx.toNat = k then (b e.val)[j]? else out[4 * k + j]? := by
 unfold wr1
 by_cases c : e.h = 0
 ·rw [if_pos c, if_neg (fun hh => hh.1 c)]
 ·have hl := h c
  have hbl := hb e.val
  rw [if_neg c]
  have htl : (out.take (4 * e.idx.toNat)).length = 4 * e.idx.toNat := by simp; omega
  rcases Nat.lt_trichotomy k e.idx.toNat with q | q | q
  ·rw [if_neg (by omega), List.append_assoc, List.getElem?_append_left (by omega), List.getElem?_take_of_lt (by omega)]
  ·rw [if_pos ⟨c, q.symm⟩, List.append_assoc, List.getElem?_append_right (by omega), htl, List.getElem?_append_left (by omega), q, show 4 * e.idx.toNat + j - 4 * e.idx.toNat = j by omega]
  ·rw [if_neg (by omega), List.getElem?_append_right (by simp; omega), List.length_append, htl, hbl, List.getElem?_drop, show 4 * e.idx.toNat + 4 + (4 * k + j - (4 * e.idx.toNat + 4)) = 4 * k + j by omega]
theorem wrs_is {b : Int → List Int} (hb : ∀ x, (b x).length = 4) (D : List Int) (hh : Int → Nat) (es : List Ent) (hm : ∀ e ∈ es, e.h ≠ 0 → Mem hh D e) : ∀ (out : List Int), out.length = 4 * D.length →
  (wrs b es out).length = 4 * D.length ∧ ∀ k j, j < 4 → k < D.length → (wrs b es out)[4 * k + j]? = if (∃ e ∈ es, e.h ≠ 0 ∧ e.idx = (k : Int)) then (b (D.getD k 0))[j]? else out[4 * k + j]? := by
 induction es with
 | nil => intro out h; exact ⟨h, fun k j _ _ => by simp [wrs]⟩
 | cons e es ih =>
  intro out h
  have hfit : e.h ≠ 0 → 4 * e.idx.toNat + 4 ≤ out.length := fun c => by
   obtain ⟨k, m1, m2, _⟩ := hm e List.mem_cons_self c
   have := (List.getElem?_eq_some_iff.1 m1).1
   rw [m2, Int.toNat_natCast]
   omega
  obtain ⟨i1, i2⟩ := ih (fun x hx => hm x (List.mem_cons_of_mem _ hx)) (wr1 out e b) (by rw [wr1_len hb out e hfit, h])
  refine ⟨i1, fun k j hj hk => ?_⟩
  show (wrs b es (wr1 out e b))[4 * k + j]? = _
  rw [i2 k j hj hk]
  by_cases c : ∃ x ∈ es, x.h ≠ 0 ∧ x.idx = (k : Int)
  ·obtain ⟨x, c1, c2⟩ := c
   rw [if_pos ⟨x, c1, c2⟩, if_pos ⟨x, List.mem_cons_of_mem _ c1, c2⟩]
  ·rw [if_neg c, wr1_at hb out e hfit k j hj]
   by_cases d : e.h ≠ 0 ∧ e.idx = (k : Int)
   ·rw [if_pos (show e.h ≠ 0 ∧ e.idx.toNat = k from ⟨d.1, by rw [d.2]; simp⟩), if_pos ⟨e, List.mem_cons_self, d⟩]
    obtain ⟨k', m1, m2, _⟩ := hm e List.mem_cons_self d.1
    have hk' : k' = k := by have := m2.symm.trans d.2; omega
    subst hk'
    rw [List.getD_eq_getElem?_getD, m1]
    rfl
   ·have d2 : ¬ (e.h ≠ 0 ∧ e.idx.toNat = k) := fun hh => by
     obtain ⟨k', m1, m2, _⟩ := hm e List.mem_cons_self hh.1
     rw [m2, Int.toNat_natCast] at hh
     exact d ⟨hh.1, by rw [m2, hh.2]⟩
    rw [if_neg d2, if_neg]
    rintro ⟨x, hx, hx2⟩
    rcases List.mem_cons.1 hx with rfl | hx
    ·exact d hx2
    ·exact c ⟨x, hx, hx2⟩
theorem flat_at (b : Int → List Int) (hb : ∀ x, (b x).length = 4) (D : List Int) : (D.flatMap b).length = 4 * D.length ∧ ∀ k j, j < 4 → k < D.length → (D.flatMap b)[4 * k + j]? = (b (D.getD k 0))[j]? := by
 induction D with
 | nil => simp
 | cons x D ih =>
  refine ⟨by rw [List.flatMap_cons, List.length_append, ih.1, hb, List.length_cons]; omega, fun k j hj hk => ?_⟩
  have hx := hb x
  rw [List.flatMap_cons]
  cases k with
  | zero => rw [List.getElem?_append_left (by omega)]; simp
  | succ k =>
   rw [List.getElem?_append_right (by omega), hx, show 4 * (k + 1) + j - 4 = 4 * k + j by omega, ih.2 k j hj (by simpa using hk)]
   simp
theorem ext4 {a c : List Int} (n : Nat) (ha : a.length = 4 * n) (hc : c.length = 4 * n) (h : ∀ k j, j < 4 → k < n → a[4 * k + j]? = c[4 * k + j]?) : a = c := by
 apply List.ext_getElem?
 intro i
 by_cases q : i < 4 * n
 ·have := h (i / 4) (i % 4) (by omega) (by omega)
  rwa [show 4 * (i / 4) + i % 4 = i by omega] at this
 ·rw [List.getElem?_eq_none (by omega), List.getElem?_eq_none (by omega)]
/-- What is written out are the values' bytes, in the order of their numbers. -/
theorem wrs_all {b : Int → List Int} (hb : ∀ x, (b x).length = 4) {hh : Int → Nat} (hp : ∀ x, hh x ≠ 0 ∧ hh x < 2 ^ 64) {es : List Ent} {D : List Int} (h : Tb hh es D) (out : List Int) (ho : out.length = 4 * D.length) : wrs b es out = D.flatMap b := by
 obtain ⟨h1, h2⟩ := wrs_is hb D hh es h.inv.inn out ho
 obtain ⟨g1, g2⟩ := flat_at b hb D
 refine ext4 D.length h1 g1 (fun k j hj hk => ?_)
 rw [h2 k j hj hk, g2 k j hj hk, if_pos]
 obtain ⟨a1, i, a2, a3, a4⟩ := h.inv.out ⟨hh (D.getD k 0), D.getD k 0, k⟩ ⟨k, by rw [List.getD_eq_getElem?_getD, List.getElem?_eq_getElem hk]; rfl, rfl, rfl⟩
 exact ⟨_, getD_mem a2, by rw [a4]; exact a1, by rw [a4]⟩
end Go.Proofs.YtiieljnllgeoeaaGreat.Q
