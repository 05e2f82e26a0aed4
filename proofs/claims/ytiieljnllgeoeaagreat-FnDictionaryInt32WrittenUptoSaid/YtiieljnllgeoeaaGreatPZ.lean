/- Several texts of ours in one: Po, Pp. -/
import Derived.Test.YtiieljnllgeoeaaGreatPX
import Derived.Test.YtiieljnllgeoeaaGreatPY
import Derived.Test.YtiieljnllgeoeaaGreatQDKg
/- The plain law: what is distinct, widths, bytes. -/
namespace Go.Proofs.YtiieljnllgeoeaaGreat.Q
open Go.RowKit Go.Proofs.YtiieljnllgeoeaaGreatW.PrintWords Go.Proofs.YtiieljnllgeoeaaGreatW.PrintLast Go.Proofs.YtiieljnllgeoeaaGreatW.PrintMore
set_option linter.unusedVariables false
set_option linter.unusedSimpArgs false
theorem snoc_ind {P : List Int → Prop} (h0 : P []) (h1 : ∀ l x, P l → P (l ++ [x])) (l : List Int) : P l := by
 have : ∀ r : List Int, P r.reverse := by
  intro r
  induction r with
  | nil => exact h0
  | cons x r ih => rw [List.reverse_cons]; exact h1 _ _ ih
 have := this l.reverse
 rwa [List.reverse_reverse] at this
theorem dist_sub (P : List Int) : ∀ y ∈ dist P, y ∈ P := by
 refine snoc_ind (P := fun P => ∀ y ∈ dist P, y ∈ P) (fun y hy => hy) (fun l x ih y hy => ?_) P
 rw [dist_snoc] at hy
 unfold more at hy
 by_cases c : x ∈ dist l
 ·rw [if_pos c] at hy
  exact List.mem_append_left _ (ih y hy)
 ·rw [if_neg c] at hy
  rcases List.mem_append.1 hy with hy | hy
  ·exact List.mem_append_left _ (ih y hy)
  ·exact List.mem_append_right _ hy
theorem mem_inj (f g : Int → Int) (D : List Int) (x : Int) (hx : g (f x) = x) (hD : ∀ y ∈ D, g (f y) = y) : f x ∈ D.map f ↔ x ∈ D := by
 constructor
 ·intro h
  obtain ⟨y, hy, e⟩ := List.mem_map.1 h
  have : y = x := by rw [← hx, ← e, hD y hy]
  rw [← this]; exact hy
 ·exact fun h => List.mem_map.2 ⟨x, h, rfl⟩
theorem dist_map (f g : Int → Int) (P : List Int) (h : ∀ x ∈ P, g (f x) = x) : dist (P.map f) = (dist P).map f := by
 revert h
 refine snoc_ind (P := fun P => (∀ x ∈ P, g (f x) = x) → dist (P.map f) = (dist P).map f) (fun _ => rfl) (fun l x ih h => ?_) P
 have h1 : ∀ y ∈ l, g (f y) = y := fun y hy => h y (List.mem_append_left _ hy)
 have hm := mem_inj f g (dist l) x (h x (List.mem_append_right _ List.mem_cons_self)) (fun y hy => h1 y (dist_sub l y hy))
 rw [List.map_append, List.map_cons, List.map_nil, dist_snoc, dist_snoc, ih h1]
 unfold more
 by_cases c : x ∈ dist l
 ·rw [if_pos c, if_pos (hm.2 c)]
 ·rw [if_neg c, if_neg (fun q => c (hm.1 q)), List.map_append, List.map_cons, List.map_nil]
theorem idx_map (f g : Int → Int) (x : Int) (hx : g (f x) = x) : ∀ D : List Int, (∀ y ∈ D, g (f y) = y) → (D.map f).idxOf (f x) = D.idxOf x := by
 intro D
 induction D with
 | nil => intro _; rfl
 | cons y D ih =>
  intro h
  have hy := h y List.mem_cons_self
  rw [List.map_cons, List.idxOf_cons, List.idxOf_cons, ih (fun z hz => h z (List.mem_cons_of_mem _ hz))]
  by_cases c : y = x
  ·subst c; simp
  ·have h2 : f y ≠ f x := fun e => c (by rw [← hx, ← hy, e])
   rw [show (f y == f x) = false from beq_eq_false_iff_ne.2 h2, show (y == x) = false from beq_eq_false_iff_ne.2 c]
theorem nums_map (f g : Int → Int) (P : List Int) (h : ∀ x ∈ P, g (f x) = x) : nums (P.map f) = nums P := by
 unfold nums
 rw [dist_map f g P h, List.map_map]
 exact List.map_congr_left fun x hx => idx_map f g x (h x hx) (dist P) (fun y hy => h y (dist_sub P y hy))
theorem parts_is (ps : List (List S29)) : partsOf ps = (ps.flatten.map S29.f1).map wrap32 := by
 induction ps with
 | nil => rfl
 | cons p ps ih =>
  have e : partsOf (p :: ps) = valsOf p ++ partsOf ps := rfl
  have e2 : valsOf p = (p.map S29.f1).map wrap32 := by unfold valsOf; rw [List.map_map]; rfl
  rw [e, ih, e2, List.flatten_cons, List.map_append, List.map_append]
theorem flat_mem (ps : List (List S29)) (p : List S29) (hp : p ∈ ps) : p.length ≤ ps.flatten.length := by
 induction ps with
 | nil => cases hp
 | cons q ps ih =>
  rw [List.flatten_cons, List.length_append]
  rcases List.mem_cons.1 hp with rfl | hp
  ·omega
  ·have := ih hp; omega
theorem le4_is (x : Int) (h : x = wrap32 x % 18446744073709551616) : leN 4 x = le4m (wrap32 x) := by
 rw [leN_four]
 unfold le4m le4
 have e : wrap32 x % 4294967296 = x % 4294967296 := by unfold wrap32; omega
 rw [e]
 have e1 : x % 4294967296 % 256 = x % 256 := by omega
 have e2 : x % 4294967296 / 256 % 256 = x / 256 % 256 := by omega
 have e3 : x % 4294967296 / 65536 % 256 = x / 65536 % 256 := by omega
 have e4 : x % 4294967296 / 16777216 % 256 = x / 16777216 % 256 := by omega
 rw [e1, e2, e3, e4]
theorem shr_i (x i : Nat) (hx : x < 1000000) (hi : i ≤ 64) : shr .i64 (x : Int) (i : Int) = ((x / 2 ^ i : Nat) : Int) := by
 have hm : min i 64 = i := by omega
 have hz : ((x : Int) / (2 : Int) ^ i) = ((x / 2 ^ i : Nat) : Int) := by simp
 have hl : x / 2 ^ i ≤ x := Nat.div_le_self _ _
 generalize hy : x / 2 ^ i = y at hz hl
 simp [shr, IntKind.wrap, IntKind.bits, IntKind.signed, hm, hz]
theorem width_loop (x : Nat) (hx : x < 1000) : ∀ (R i k : Nat), R = Lib.bitLen x - i → i ≤ Lib.bitLen x → spec_WidthOf.l0 (k + R + 1) (x : Int) (i : Int) = some ((Lib.bitLen x : Nat) : Int) := by
 have hL : Lib.bitLen x ≤ 10 := Lib.bitLen_le x 10 (by decide) (by omega)
 have hB := bitLen_lt x (by omega)
 intro R
 induction R with
 | zero =>
  intro i k hR hi
  have hi2 : i = Lib.bitLen x := by omega
  rw [hi2]
  have hs := shr_i x (Lib.bitLen x) (by omega) (by omega)
  rw [Nat.div_eq_of_lt hB] at hs
  unfold spec_WidthOf.l0
  rw [if_pos (Int.natCast_nonneg _), hs, if_neg (by decide)]
 | succ R ih =>
  intro i k hR hi
  have hnext := ih (i + 1) k (by omega) (by omega)
  have hs := shr_i x i (by omega) (by omega)
  have hp : 2 ^ i ≤ x := by
   rcases Nat.lt_or_ge x (2 ^ i) with q | q
   ·have := Lib.bitLen_le x i (by omega) q
    omega
   ·exact q
  have hd : 0 < x / 2 ^ i := Nat.div_pos hp (Nat.two_pow_pos i)
  have g : ((x / 2 ^ i : Nat) : Int) > 0 := by
   generalize x / 2 ^ i = y at hd
   omega
  have b : i + 1 < 4000000000000 := by omega
  have c : wrap64 ((i : Int) + 1) = ((i + 1 : Nat) : Int) := w64k (i + 1) b
  rw [show k + (R + 1) + 1 = (k + R + 1) + 1 from rfl]
  conv => lhs; unfold spec_WidthOf.l0
  rw [if_pos (Int.natCast_nonneg _), hs, if_pos g, c]
  exact hnext
theorem width_is (x k : Nat) (hx : x < 1000) (hk : 100 ≤ k) : spec_WidthOf.f k (x : Int) = some ((Lib.bitLen x : Nat) : Int) := by
 have hL : Lib.bitLen x ≤ 10 := Lib.bitLen_le x 10 (by decide) (by omega)
 have := width_loop x hx (Lib.bitLen x) 0 (k - Lib.bitLen x - 1) (by omega) (by omega)
 rw [show k - Lib.bitLen x - 1 + Lib.bitLen x + 1 = k by omega] at this
 exact this
theorem wdof_is (n : Nat) (h0 : 0 < n) (h : n ≤ 1000) : mx 1 ((Lib.bitLen (n - 1) : Nat) : Int) = ((wdof n : Nat) : Int) := by
 obtain ⟨h1, h2, _⟩ := wdof_b n h0 h
 unfold wdof at h1 ⊢
 unfold mx
 by_cases c : n = 1
 ·subst c; decide
 ·rw [if_neg c] at h1 ⊢
  by_cases q : 1 < ((Lib.bitLen (n - 1) : Nat) : Int)
  ·rw [if_pos q]
  ·rw [if_neg q]; omega
theorem words_same (l : List Int) (hl : l.length ≤ 1048576) (n : Nat) : ∀ (i k : Nat), n = l.length - i → i ≤ l.length → n < k → laws_sameWords.l0 k l l (l.length : Int) (i : Int) = some true := by
 induction n with
 | zero =>
  intro i k hn hi hk
  obtain ⟨k, rfl⟩ : ∃ q, k = q + 1 := ⟨k - 1, by omega⟩
  unfold laws_sameWords.l0
  rw [if_neg (by omega)]
 | succ n ih =>
  intro i k hn hi hk
  obtain ⟨k, rfl⟩ : ∃ q, k = q + 1 := ⟨k - 1, by omega⟩
  have hih := ih (i + 1) k (by omega) (by omega) (by omega)
  have g : (i : Int) < (l.length : Int) := by omega
  have b : i + 1 < 4000000000000 := by omega
  have c : wrap64 ((i : Int) + 1) = ((i + 1 : Nat) : Int) := w64k (i + 1) b
  unfold laws_sameWords.l0
  rw [if_pos g, if_pos (Int.natCast_nonneg i), if_pos g, if_pos g, if_pos rfl, c, hih]
theorem numbers_same (k : Nat) (l : List Int) (hl : l.length ≤ 1000) (hk : 2000 ≤ k) : laws_sameNumbers.f k l l = some true := by
 unfold laws_sameNumbers.f laws_sameWords.f
 rw [if_pos rfl]
 have := words_same l (by omega) l.length 0 k (by omega) (by omega) (by omega)
 rw [show (0 : Int) = ((0 : Nat) : Int) from rfl, this]
 rfl
end Go.Proofs.YtiieljnllgeoeaaGreat.Q

/- The law of DictionaryInt32Written, plainly. -/
namespace Go.Proofs.YtiieljnllgeoeaaGreat.Q
open Go.RowKit Go.Proofs.YtiieljnllgeoeaaGreatW.PrintWords Go.Proofs.YtiieljnllgeoeaaGreatW.PrintLast Go.Proofs.YtiieljnllgeoeaaGreatW.PrintMore
set_option linter.unusedVariables false
set_option linter.unusedSimpArgs false
theorem first_call : ∃ a d, impl_DictionaryInt32Written.f [[(⟨false, 5, (⟨#[]⟩ : ByteArray), []⟩ : S29)]] = some (a, 1, d, true) := by
 have hp : partsOf [[(⟨false, 5, (⟨#[]⟩ : ByteArray), []⟩ : S29)]] = [5] := by simp [partsOf, valsOf, wrap32]
 have hf : FairK [[(⟨false, 5, (⟨#[]⟩ : ByteArray), []⟩ : S29)]] := by
  refine ⟨by decide, fun p h => ?_, by rw [hp]; decide, by rw [hp]; decide⟩
  have : p = [(⟨false, 5, (⟨#[]⟩ : ByteArray), []⟩ : S29)] := by simpa using h
  rw [this]; decide
 have hn : dictN [[(⟨false, 5, (⟨#[]⟩ : ByteArray), []⟩ : S29)]] = 1 := by
  unfold dictN
  rw [hp]; decide
 unfold impl_DictionaryInt32Written.f
 rw [if_pos hf, hn]
 exact ⟨_, _, rfl⟩
theorem pb_is (x : Int) (h0 : 0 ≤ x) (h1 : x < 18446744073709551616) : spec_PlainBytes.f 2 32 true 0 0 0 (⟨#[]⟩ : ByteArray) false ([] : List Int) ([] : List Int) (val29 x).f0 (val29 x).f1 (val29 x).f2 (val29 x).f3 = some (leN 4 (val29 x).f1) := by
 have hb : spec_OneBits.f 3 2 32 true 0 0 0 (⟨#[]⟩ : ByteArray) false ([] : List Int) ([] : List Int) = some (32, true) := by simp [spec_OneBits.f, spec_OneBits.j0]
 unfold spec_PlainBytes.f
 rw [hb, Option.bind_some]
 exact if_pos ⟨rfl, h0, h1⟩
theorem leN_flat (D : List Int) (h : ∀ x ∈ D, x = wrap32 x % 18446744073709551616) : (D.map val29).flatMap (fun v => leN 4 v.f1) = (D.map wrap32).flatMap le4m := by
 induction D with
 | nil => rfl
 | cons x D ih =>
  rw [List.map_cons, List.map_cons, List.flatMap_cons, List.flatMap_cons, ih (fun y hy => h y (List.mem_cons_of_mem _ hy))]
  show leN 4 x ++ _ = _
  rw [le4_is x (h x List.mem_cons_self)]
/-- What the law reckons, once it is known that the values fit. -/
theorem j1_is (ps : List (List S29)) (h20 : ps.length ≤ 20) (h500 : ps.flatten.length ≤ 500) (hok : ∀ x ∈ ps.flatten, OkV x) (hne : 0 < ps.flatten.length) : ∃ K, ∀ k, 3000000 ≤ k → laws_FnDictionaryInt32Written.j1 (k + K + 2) ps true ps.flatten false = some true := by
 obtain ⟨X, hX⟩ : ∃ X, X = ps.flatten.map S29.f1 := ⟨_, rfl⟩
 have hXl : X.length = ps.flatten.length := by rw [hX, List.length_map]
 have hinv : ∀ x ∈ X, wrap32 x % 18446744073709551616 = x := by
  intro x hx
  rw [hX] at hx
  obtain ⟨v, hv, rfl⟩ := List.mem_map.1 hx
  exact (hok v hv).2.2.2.symm
 have hfv : FairV ps.flatten = true := by
  unfold FairV
  simp only [Bool.and_eq_true, decide_eq_true_eq, List.all_eq_true]
  refine ⟨by omega, fun v hv => ?_⟩
  obtain ⟨q1, q2, q3, _⟩ := hok v hv
  rw [q1, q2, q3]
  exact ⟨⟨rfl, rfl⟩, rfl⟩
 have hD : spec_Distinct.f ps.flatten = some ((dist X).map val29, ints (nums X)) := by
  unfold spec_Distinct.f
  rw [if_pos hfv, ← hX]
  rfl
 have hpt : partsOf ps = X.map wrap32 := by rw [parts_is, hX]
 have hptl : (partsOf ps).length = ps.flatten.length := by rw [hpt, List.length_map, hXl]
 have hfair : FairK ps := ⟨by omega, fun p hp => by have := flat_mem ps p hp; omega, by omega, by omega⟩
 have hdm := dist_map wrap32 (fun y => y % 18446744073709551616) X hinv
 have hnm := nums_map wrap32 (fun y => y % 18446744073709551616) X hinv
 obtain ⟨n, hn⟩ : ∃ n, n = (dist X).length := ⟨_, rfl⟩
 have hdn : dictN ps = n := by unfold dictN; rw [hpt, hdm, List.length_map, hn]
 have hn0 : 0 < n := by rw [hn]; exact dist_pos X (by omega)
 have hn1 : n ≤ 500 := by have := dist_len X; omega
 obtain ⟨w1, w2, w3⟩ := wdof_b n hn0 (by omega)
 have hI : impl_DictionaryInt32Written.f ps = some (dictB ps, (n : Int), dictD ps, true) := by
  unfold impl_DictionaryInt32Written.f
  rw [if_pos hfair, hdn]
 have hdD : dictD ps = ((wdof n : Nat) : Int) :: enc (wdof n) (nums X) := by
  unfold dictD
  rw [hdn, hpt, hnm]
 have hinvD : ∀ x ∈ dist X, x = wrap32 x % 18446744073709551616 := fun x hx => (hinv x (dist_sub X x hx)).symm
 have hdB : dictB ps = ((dist X).map val29).flatMap (fun v => leN 4 v.f1) := by
  unfold dictB
  rw [hpt, hdm, leN_flat _ hinvD]
 obtain ⟨K, hK⟩ := enc_read (wdof n) w1 w2 (nums X) (by rw [nums_len]; omega) (fun v hv => Nat.lt_of_lt_of_le (by rw [hn]; exact nums_lt X v hv) w3)
 refine ⟨K, fun k hk => ?_⟩
 have hTR := hK k (by omega)
 have hpl : spec_Plainly.f (k + K + 1) 2 32 true 0 0 0 (⟨#[]⟩ : ByteArray) false ([] : List Int) ([] : List Int) ((dist X).map val29) = some (((dist X).map val29).flatMap (fun v => leN 4 v.f1)) := by
  have hdl := dist_len X
  refine plainly_is 2 32 true 0 0 0 (⟨#[]⟩ : ByteArray) false ([] : List Int) ([] : List Int) (fun v => leN 4 v.f1) ((dist X).map val29) (fun v hv => ?_) (by rw [List.length_map]; omega) (k + K + 1) 0 (Nat.zero_le _) (by rw [List.length_map]; omega)
  obtain ⟨x, hx, rfl⟩ := List.mem_map.1 hv
  have hx2 := hinvD x hx
  refine ⟨pb_is x (by rw [hx2]; exact Int.emod_nonneg _ (by decide)) (by rw [hx2]; exact Int.emod_lt_of_pos _ (by decide)), ?_⟩
  rw [leN_len]; decide
 have hwd : spec_WidthOf.f (k + K + 1) ((n - 1 : Nat) : Int) = some ((Lib.bitLen (n - 1) : Nat) : Int) := width_is (n - 1) (k + K + 1) (by omega) (by omega)
 have hwi := wdof_is n hn0 (by omega)
 have hsn := numbers_same (k + K) (ints (nums X)) (by rw [ints_len, nums_len]; omega) (by omega)
 have g1 : (n : Int) = (((dist X).map val29).length : Int) := by rw [List.length_map, hn]
 have g2 : ¬ (((dictD ps).length : Int) = 0) := by rw [hdD, List.length_cons]; omega
 have g3 : 0 < ((dictD ps).length : Int) := by rw [hdD, List.length_cons]; omega
 have g4 : 1 ≤ ((dictD ps).length : Int) := g3
 have g5 : rd (dictD ps) 0 = ((wdof n : Nat) : Int) := by rw [hdD]; rfl
 have g6 : (dictD ps).drop 1 = enc (wdof n) (nums X) := by rw [hdD]; rfl
 have g7 : (ps.flatten.length : Int) = ((nums X).length : Int) := by rw [nums_len, hXl]
 have b0 : (n : Int) - 1 = ((n - 1 : Nat) : Int) := by omega
 have b1 : n - 1 < 4000000000000 := by omega
 have b2 : wdof n < 4000000000000 := by omega
 have c1 : wrap64 ((n : Int) - 1) = ((n - 1 : Nat) : Int) := by rw [b0]; exact w64k _ b1
 have c2 : wrap64 ((wdof n : Nat) : Int) = ((wdof n : Nat) : Int) := w64k _ b2
 have c3 : (((wdof n : Nat) : Int) != ((wdof n : Nat) : Int)) = false := by simp
 rw [show k + K + 2 = (k + K + 1) + 1 from rfl]
 conv => lhs; unfold laws_FnDictionaryInt32Written.j1
 dsimp only
 rw [if_neg Bool.false_ne_true, hD, Option.bind_some, hI, Option.bind_some]
 dsimp only
 rw [if_pos rfl, if_pos g1, hpl, Option.bind_some, hdB, same_self, Option.bind_some, if_pos rfl, if_neg g2, if_pos g3, c1, hwd, Option.bind_some, g5, c2, hwi, c3]
 conv => lhs; unfold laws_FnDictionaryInt32Written.j2
 dsimp only
 rw [if_neg Bool.false_ne_true, if_pos g4, if_pos g3, g6, g5, c2, g7, hTR, Option.bind_some]
 dsimp only
 rw [if_pos rfl, hsn, Option.bind_some, if_pos rfl]
theorem law_K (ps : List (List S29)) (h1 : ps.length ≤ 1048576) (h2 : ps.flatten.length ≤ 1048576) (hr : ∀ p ∈ ps, ∀ x ∈ p, Ranged x) : ∃ k, laws_FnDictionaryInt32Written.f k ps = some true := by
 have hall : ∀ k, 3000000 ≤ k → ∃ b, laws_allOf.f k 2 32 true 0 0 0 (⟨#[]⟩ : ByteArray) false ([] : List Int) ([] : List Int) ps = some (ps.flatten, b) ∧ (b = true → ps.length ≤ 20 ∧ ps.flatten.length ≤ 500 ∧ ∀ x ∈ ps.flatten, OkV x) := fun k hk =>
  allOf_is 2 32 true 0 0 0 (⟨#[]⟩ : ByteArray) false ([] : List Int) ([] : List Int) OkV 1 (fun k hk x hx hr => fits_I32 k hk x hx hr) ps h1 h2 hr k 0 (Nat.zero_le _) (by omega)
 have ht : ∀ k, laws_FnDictionaryInt32Written.j1 (k + 1) ps true ps.flatten true = some true := fun k => by
  conv => lhs; unfold laws_FnDictionaryInt32Written.j1
  dsimp only
  rw [if_pos rfl]
 obtain ⟨a, d, hfirst⟩ := first_call
 have hg : ¬ ((ps.length : Int) > 2147483647) := by omega
 have hjoin : ∀ k, laws_FnDictionaryInt32Written.j0 k ps true = some true → laws_FnDictionaryInt32Written.f k ps = some true := fun k h => by
  unfold laws_FnDictionaryInt32Written.f
  rw [if_neg hg, hfirst, Option.bind_some]
  dsimp only
  rw [if_pos rfl]
  exact h
 have hex : ∃ K, (ps.length ≤ 20 ∧ ps.flatten.length ≤ 500 ∧ ∀ x ∈ ps.flatten, OkV x) → 0 < ps.flatten.length → laws_FnDictionaryInt32Written.j1 (3000000 + K + 2) ps true ps.flatten false = some true := by
  by_cases c : (ps.length ≤ 20 ∧ ps.flatten.length ≤ 500 ∧ ∀ x ∈ ps.flatten, OkV x) ∧ 0 < ps.flatten.length
  ·obtain ⟨K, hK⟩ := j1_is ps c.1.1 c.1.2.1 c.1.2.2 c.2
   exact ⟨K, fun _ _ => hK 3000000 (Nat.le_refl _)⟩
  ·exact ⟨0, fun q1 q2 => absurd ⟨q1, q2⟩ c⟩
 obtain ⟨K, hK⟩ := hex
 refine ⟨3000000 + K + 2 + 1, hjoin _ ?_⟩
 obtain ⟨b, e1, e2⟩ := hall (3000000 + K + 2) (by omega)
 conv => lhs; unfold laws_FnDictionaryInt32Written.j0
 dsimp only
 rw [e1, Option.bind_some]
 dsimp only
 by_cases cb : b = true
 ·obtain ⟨g1, g2, g3⟩ := e2 cb
  rw [if_pos cb]
  by_cases c0 : (ps.flatten.length : Int) = 0
  ·rw [if_pos c0]; exact ht _
  ·have hpf : spec_PlainFloats.f 2 32 true 0 0 0 (⟨#[]⟩ : ByteArray) false ([] : List Int) ([] : List Int) ps.flatten = some true := if_pos ⟨by decide, rfl, by omega⟩
   rw [if_neg c0, hpf, Option.bind_some]
   exact hK ⟨g1, g2, g3⟩ (by omega)
 ·rw [if_neg cb]; exact ht _
end Go.Proofs.YtiieljnllgeoeaaGreat.Q
