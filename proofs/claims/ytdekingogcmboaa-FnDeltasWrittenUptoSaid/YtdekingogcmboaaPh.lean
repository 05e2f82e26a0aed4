/- The law of DeltasWritten, plainly. -/
import Derived.Test.YtdekingogcmboaaPN
import Derived.Test.YtdekingogcmboaaQDLd
namespace Go.Proofs.Ytdekingogcmboaa.Q
open Go.RowKit Go.Proofs.YtdekingogcmboaaW.PrintWords Go.Proofs.YtdekingogcmboaaW.PrintLast Go.Proofs.YtdekingogcmboaaW.PrintMore
set_option linter.unusedVariables false
set_option linter.unusedSimpArgs false
theorem rdL_is (ps : List (List Int)) (i : Nat) (h : i < ps.length) : rd_L1 ps (i : Int) = ps[i] := by
  show ps.getD (i : Int).toNat [] = _
  rw [Int.toNat_natCast, List.getD_eq_getElem?_getD, List.getElem?_eq_getElem h]
  rfl
theorem rd_is (l : List Int) (i : Nat) (h : i < l.length) : rd l (i : Int) = l[i] := by
  show l.getD (i : Int).toNat 0 = _
  rw [Int.toNat_natCast, List.getD_eq_getElem?_getD, List.getElem?_eq_getElem h]
  rfl
theorem zz_fits (ps : List (List Int)) (h1 : ps.length ≤ 1048576) (h : ∀ p ∈ ps, p.length ≤ 1048576) (n : Nat) : ∀ (i k : Nat), n = ps.length - i → i ≤ ps.length → n < k → laws_zzFits2.l0 k ps (ps.length : Int) (i : Int) = some true := by
  induction n with
  | zero =>
    intro i k hn hi hk
    obtain ⟨k, rfl⟩ : ∃ q, k = q + 1 := ⟨k - 1, by omega⟩
    unfold laws_zzFits2.l0
    rw [if_neg (by omega)]
  | succ n ih =>
    intro i k hn hi hk
    obtain ⟨k, rfl⟩ : ∃ q, k = q + 1 := ⟨k - 1, by omega⟩
    have hl : i < ps.length := by omega
    have hp := h _ (List.getElem_mem hl)
    have hih := ih (i + 1) k (by omega) (by omega) (by omega)
    have q4 : ¬ ((ps[i].length : Int) > 2147483647) := by omega
    unfold laws_zzFits2.l0
    rw [if_pos (by omega), if_pos (by omega), if_pos (by omega), rdL_is ps i hl, if_neg q4, wr_one i (by omega), hih]
theorem whole_is (ps : List (List Int)) (h1 : ps.length ≤ 1048576) (h2 : ps.flatten.length ≤ 1048576) (n : Nat) : ∀ (i k : Nat) (acc : List Int), n = ps.length - i → i ≤ ps.length → n < k → acc = (ps.take i).flatten → laws_whole_int64.l0 k acc ps (ps.length : Int) (i : Int) = some ps.flatten := by
  induction n with
  | zero =>
    intro i k acc hn hi hk ha
    obtain ⟨k, rfl⟩ : ∃ q, k = q + 1 := ⟨k - 1, by omega⟩
    have hi2 : i = ps.length := by omega
    rw [hi2, List.take_length] at ha
    unfold laws_whole_int64.l0
    rw [if_neg (by omega), ha]
  | succ n ih =>
    intro i k acc hn hi hk ha
    obtain ⟨k, rfl⟩ : ∃ q, k = q + 1 := ⟨k - 1, by omega⟩
    have hl : i < ps.length := by omega
    have hst := flat_step ps i hl
    have hle := flat_le ps (i + 1)
    have hg : ps.getD i [] = ps[i] := by rw [List.getD_eq_getElem?_getD, List.getElem?_eq_getElem hl]; rfl
    rw [hg] at hst
    rw [hst, List.length_append] at hle
    have hal := congrArg List.length ha
    have hih := ih (i + 1) k (acc ++ ps[i]) (by omega) (by omega) (by omega) (by rw [hst, ha])
    have q5 : acc.length + ps[i].length < 17592186044416 := by omega
    unfold laws_whole_int64.l0
    rw [if_pos (by omega), if_pos (by omega), if_pos (by omega), rdL_is ps i hl, if_pos q5, wr_one i (by omega), hih]
theorem longs_is (l : List Int) (a0 : Int) (hl : l.length ≤ 1048576) (n : Nat) : ∀ (i k : Nat), n = l.length - i → i ≤ l.length → n < k → ∃ b, laws_longsFit.l0 k l a0 l (l.length : Int) (i : Int) = some b ∧ (b = true → l.length ≤ 2000 ∧ ((a0 = 32 ∧ ∀ j (h : j < l.length), i ≤ j → l[j] = wrap64 (wrap32 l[j])) ∨ a0 = 64)) := by
  induction n with
  | zero =>
    intro i k hn hi hk
    obtain ⟨k, rfl⟩ : ∃ q, k = q + 1 := ⟨k - 1, by omega⟩
    unfold laws_longsFit.l0
    rw [if_neg (by omega)]
    by_cases c1 : a0 = 32
    · rw [if_pos c1]
      refine ⟨_, rfl, fun hb => ?_⟩
      have := of_decide_eq_true hb
      exact ⟨by omega, .inl ⟨c1, fun j h hj => by omega⟩⟩
    · rw [if_neg c1]
      by_cases c2 : a0 = 64
      · rw [if_pos c2]
        refine ⟨_, rfl, fun hb => ?_⟩
        have := of_decide_eq_true hb
        exact ⟨by omega, .inr c2⟩
      · rw [if_neg c2]
        exact ⟨false, rfl, fun hb => by cases hb⟩
  | succ n ih =>
    intro i k hn hi hk
    obtain ⟨k, rfl⟩ : ∃ q, k = q + 1 := ⟨k - 1, by omega⟩
    have hlt : i < l.length := by omega
    obtain ⟨b, hb1, hb2⟩ := ih (i + 1) k (by omega) (by omega) (by omega)
    unfold laws_longsFit.l0
    rw [if_pos (by omega), if_pos (by omega), if_pos (by omega), wr_one i (by omega), hb1, rd_is l i hlt]
    by_cases c1 : a0 = 32
    · rw [if_pos c1]
      by_cases c2 : l[i] = wrap64 (wrap32 l[i])
      · rw [if_pos c2]
        refine ⟨b, rfl, fun hb => ?_⟩
        obtain ⟨g1, g2⟩ := hb2 hb
        refine ⟨g1, ?_⟩
        rcases g2 with ⟨g2, g3⟩ | g2
        · refine .inl ⟨g2, fun j h hj => ?_⟩
          rcases Nat.lt_or_ge i j with h3 | h3
          · exact g3 j h h3
          · have : j = i := Nat.le_antisymm h3 hj
            subst this
            exact c2
        · exact .inr g2
      · rw [if_neg c2]
        exact ⟨false, rfl, fun hb => by cases hb⟩
    · rw [if_neg c1]
      refine ⟨b, rfl, fun hb => ?_⟩
      obtain ⟨g1, g2⟩ := hb2 hb
      refine ⟨g1, ?_⟩
      rcases g2 with ⟨g2, _⟩ | g2
      · exact absurd g2 c1
      · exact .inr g2
theorem narrowed_is (p : List Int) (hp : p.length ≤ 1048576) (n : Nat) : ∀ (i k : Nat) (acc : List Int), n = p.length - i → i ≤ p.length → n < k → acc = (p.take i).map wrap32 → laws_narrowed.l0 k acc p (p.length : Int) (i : Int) = some (p.map wrap32) := by
  induction n with
  | zero =>
    intro i k acc hn hi hk ha
    obtain ⟨k, rfl⟩ : ∃ q, k = q + 1 := ⟨k - 1, by omega⟩
    have hi2 : i = p.length := by omega
    rw [hi2, List.take_length] at ha
    unfold laws_narrowed.l0
    rw [if_neg (by omega), ha]
  | succ n ih =>
    intro i k acc hn hi hk ha
    obtain ⟨k, rfl⟩ : ∃ q, k = q + 1 := ⟨k - 1, by omega⟩
    have hl : i < p.length := by omega
    have hal : acc.length = i := by rw [ha, List.length_map, List.length_take]; omega
    have hih := ih (i + 1) k (acc ++ [wrap32 p[i]]) (by omega) (by omega) (by omega) (by rw [ha, List.take_succ_eq_append_getElem hl, List.map_append]; rfl)
    have q5 : acc.length < 35184372088832 := by omega
    unfold laws_narrowed.l0
    rw [if_pos (by omega), if_pos (by omega), if_pos (by omega), rd_is p i hl, if_pos q5, wr_one i (by omega), hih]
theorem dw32_is (ps : List (List Int)) (h1 : ps.length ≤ 1048576) (h : ∀ p ∈ ps, p.length ≤ 1048576) (n : Nat) : ∀ (i k : Nat) (acc : List (List Int)), n = ps.length - i → i ≤ ps.length → n + 1048580 < k → acc = (ps.take i).map (List.map wrap32) →
    laws_deltasWritten.l0 k acc ps (ps.length : Int) (i : Int) = (impl_DeltasWritten32.f (ps.map (List.map wrap32))).bind fun bt => some (bt.1, bt.2) := by
  induction n with
  | zero =>
    intro i k acc hn hi hk ha
    obtain ⟨k, rfl⟩ : ∃ q, k = q + 1 := ⟨k - 1, by omega⟩
    have hi2 : i = ps.length := by omega
    rw [hi2, List.take_length] at ha
    unfold laws_deltasWritten.l0
    rw [if_neg (by omega), ha]
  | succ n ih =>
    intro i k acc hn hi hk ha
    obtain ⟨k, rfl⟩ : ∃ q, k = q + 1 := ⟨k - 1, by omega⟩
    have hl : i < ps.length := by omega
    have hp := h _ (List.getElem_mem hl)
    have hal : acc.length = i := by rw [ha, List.length_map, List.length_take]; omega
    have hih := ih (i + 1) k (acc ++ [ps[i].map wrap32]) (by omega) (by omega) (by omega) (by rw [ha, List.take_succ_eq_append_getElem hl, List.map_append]; rfl)
    have hnr : laws_narrowed.f k ps[i] = some (ps[i].map wrap32) := by
      unfold laws_narrowed.f
      exact narrowed_is ps[i] hp ps[i].length 0 k [] (by omega) (by omega) (by omega) rfl
    have q5 : acc.length < 5864062014805 := by omega
    unfold laws_deltasWritten.l0
    rw [if_pos (by omega), if_pos (by omega), if_pos (by omega), rdL_is ps i hl, hnr, Option.bind_some, if_pos q5, wr_one i (by omega), hih]
theorem same_is (l : List Int) (hl : l.length ≤ 1048576) (n : Nat) : ∀ (i k : Nat), n = l.length - i → i ≤ l.length → n < k → spec_SameLongs.l0 k l l (l.length : Int) (i : Int) = some true := by
  induction n with
  | zero =>
    intro i k hn hi hk
    obtain ⟨k, rfl⟩ : ∃ q, k = q + 1 := ⟨k - 1, by omega⟩
    unfold spec_SameLongs.l0
    rw [if_neg (by omega)]
  | succ n ih =>
    intro i k hn hi hk
    obtain ⟨k, rfl⟩ : ∃ q, k = q + 1 := ⟨k - 1, by omega⟩
    have hih := ih (i + 1) k (by omega) (by omega) (by omega)
    unfold spec_SameLongs.l0
    rw [if_pos (by omega), if_pos (by omega), if_pos (by omega), if_pos (by omega), if_pos rfl, wr_one i (by omega), hih]
theorem wid32 (b : List Int) (h : ∀ x ∈ b, -2147483648 ≤ x ∧ x ≤ 2147483647) (i : Nat) : (wid (minL b) (chunk b i) : Int) ≤ 32 := by
  have hf : Fit b := fun x hx => by have := h x hx; omega
  unfold wid
  by_cases c : chunk b i = []
  · rw [if_pos c]; omega
  · rw [if_neg c]
    have hm := (maxL_is (chunk b i) (chunk_fit hf i)).2.2 c
    have hsub : ∀ x ∈ chunk b i, x ∈ b := fun x hx => List.mem_of_mem_drop (List.mem_of_mem_take hx)
    have hx1 := h _ (hsub _ hm)
    have hbn : b ≠ [] := fun e => by have h5 := hsub _ hm; rw [e] at h5; simp at h5
    have hx2 := h _ ((minL_is b hf).2.2 hbn)
    have := Lib.bitLen_le (maxL (chunk b i) - minL b).toNat 32 (by omega) (by omega)
    omega
theorem wid64 (b : List Int) (h : Fit b) (i : Nat) : (wid (minL b) (chunk b i) : Int) ≤ 64 := by
  have hm := minL_is b h
  have := (chunk_vals (chunk_fit h i) (fun d hd => hm.2.1 d (List.mem_of_mem_drop (List.mem_of_mem_take hd))) hm.1.1).2
  omega
theorem map32 (l : List Int) (h : ∀ x ∈ l, wrap32 x = x) : l.map wrap32 = l := by
  induction l with
  | nil => rfl
  | cons x l ih => rw [List.map_cons, h x List.mem_cons_self, ih (fun y hy => h y (List.mem_cons_of_mem _ hy))]
theorem flat_mem (ps : List (List Int)) (p : List Int) (hp : p ∈ ps) : p.length ≤ ps.flatten.length := by
  induction ps with
  | nil => cases hp
  | cons q ps ih =>
    rw [List.flatten_cons, List.length_append]
    rcases List.mem_cons.1 hp with rfl | hp
    · omega
    · have := ih hp; omega
theorem pt_ex (wr : Int → Int) (first : Int) (rest : List Int) : ∃ ds out, Pt wr first rest ds out := by
  refine snoc_ind (P := fun rest => ∃ ds out, Pt wr first rest ds out) ⟨[], [], Pt.nil _ _⟩ (fun l x ⟨ds, out, h⟩ => ?_) rest
  by_cases c : ds.length = 127
  · exact ⟨_, _, h.full x c⟩
  · exact ⟨_, _, h.wait x c⟩
theorem enc_len (wr : Int → Int) (hwf : ∀ x, -9223372036854775808 ≤ wr x ∧ wr x ≤ 9223372036854775807) (first : Int) (rest : List Int) (hl : rest.length ≤ 1999) (hfi : -9223372036854775808 ≤ first ∧ first ≤ 9223372036854775807) : (encAll wr (first :: rest)).length < 1000000 := by
  obtain ⟨ds, out, h⟩ := pt_ex wr first rest
  obtain ⟨f1, f2, f3⟩ := h.facts hwf (by omega)
  have h1 := (hdr_len (rest.length + 1) first (by omega) hfi).2.2.2.2.2.1
  have h2 := tb_len ds f1
  show (hdr (rest.length + 1) first ++ encB (rest.length + 1) (dif wr first rest)).length < _
  rw [← h.enc]
  simp only [List.length_append]
  omega
/-- What the law reckons, once it is known what is written. -/
theorem j0_is (a0 : Int) (ps : List (List Int)) (wr : Int → Int) (hW : Wr a0 wr) (first : Int) (rest : List Int) (hflat : ps.flatten = first :: rest) (hfi : -9223372036854775808 ≤ first ∧ first ≤ 9223372036854775807) (hl : rest.length ≤ 1999) (hwf : ∀ x, -9223372036854775808 ≤ wr x ∧ wr x ≤ 9223372036854775807)
    (hid : ∀ x ∈ first :: rest, wr x = x) (hw2 : ∀ a b : Int, wr (a + wr (b - a)) = wr b) (hwd : ∀ b : List Int, (∀ x ∈ b, x ∈ dif wr first rest) → ∀ i, (wid (minL b) (chunk b i) : Int) ≤ a0)
    (hdw : ∀ k, 3000000 ≤ k → laws_deltasWritten.f k a0 ps = some (encAll wr ps.flatten, true)) :
    ∃ c, ∀ k, 3000000 ≤ k → laws_FnDeltasWritten.j0 (k + c + 1) a0 ps ps.flatten false = some true := by
  obtain ⟨c, hc⟩ := deltas_is hW first rest hfi hl hwf hid hw2 hwd (enc_len wr hwf first rest hl hfi)
  refine ⟨c, fun k hk => ?_⟩
  have h1 := hdw (k + c) (by omega)
  have h2 := hc k (by omega)
  have h3 : spec_SameLongs.f (k + c) (first :: rest) (first :: rest) = some true := by
    unfold spec_SameLongs.f
    rw [if_pos rfl]
    exact same_is (first :: rest) (by rw [List.length_cons]; omega) (first :: rest).length 0 (k + c) (by omega) (by omega) (by rw [List.length_cons]; omega)
  conv => lhs; unfold laws_FnDeltasWritten.j0
  dsimp only
  rw [if_neg Bool.false_ne_true, h1, Option.bind_some, hflat]
  dsimp only
  rw [h2, Option.bind_some]
  dsimp only
  rw [if_pos rfl, if_pos rfl, if_pos rfl, h3, Option.bind_some]
theorem law_D (a0 : Int) (ps : List (List Int)) (h1 : ps.length ≤ 1048576) (h2 : ps.flatten.length ≤ 1048576) (hr : ∀ x ∈ ps.flatten, -9223372036854775808 ≤ x ∧ x ≤ 9223372036854775807) : ∃ k, laws_FnDeltasWritten.f k a0 ps = some true := by
  have hpl : ∀ p ∈ ps, p.length ≤ 1048576 := fun p hp => by have := flat_mem ps p hp; omega
  have hz : ∀ k, 3000000 ≤ k → laws_zzFits2.f k ps = some true := fun k hk => by
    unfold laws_zzFits2.f
    rw [if_neg (by omega)]
    exact zz_fits ps h1 hpl ps.length 0 k (by omega) (by omega) (by omega)
  have hwh : ∀ k, 3000000 ≤ k → laws_whole_int64.f k ps = some ps.flatten := fun k hk => by
    unfold laws_whole_int64.f
    exact whole_is ps h1 h2 ps.length 0 k [] (by omega) (by omega) (by omega) rfl
  have hlf : ∀ k, 3000000 ≤ k → ∃ b, laws_longsFit.f k ps.flatten a0 = some b ∧ (b = true → ps.flatten.length ≤ 2000 ∧ ((a0 = 32 ∧ ∀ x ∈ ps.flatten, wrap32 x = x) ∨ a0 = 64)) := fun k hk => by
    obtain ⟨b, g1, g2⟩ := longs_is ps.flatten a0 h2 ps.flatten.length 0 k (by omega) (by omega) (by omega)
    refine ⟨b, g1, fun hb => ?_⟩
    obtain ⟨g3, g4⟩ := g2 hb
    refine ⟨g3, ?_⟩
    rcases g4 with ⟨g4, g5⟩ | g4
    · refine .inl ⟨g4, fun x hx => ?_⟩
      obtain ⟨j, hj, rfl⟩ := List.getElem_of_mem hx
      have h5 := g5 j hj (by omega)
      have h6 : ∀ y : Int, y = wrap64 (wrap32 y) → wrap32 y = y := fun y hy => by unfold wrap64 wrap32 at hy; unfold wrap32; omega
      exact h6 _ h5
    · exact .inr g4
  have hj1 : ∀ k, laws_FnDeltasWritten.j0 (k + 1) a0 ps ps.flatten true = some true := fun k => by
    conv => lhs; unfold laws_FnDeltasWritten.j0
    dsimp only
    rw [if_pos rfl]
  have hj : ∃ c, ∀ k, 3000000 ≤ k → ∀ b, laws_longsFit.f (k + c + 1) ps.flatten a0 = some b → (if b = true then (if (ps.flatten.length : Int) = 0 then laws_FnDeltasWritten.j0 (k + c + 1) a0 ps ps.flatten true else laws_FnDeltasWritten.j0 (k + c + 1) a0 ps ps.flatten (decide ((ps.length : Int) > 50))) else laws_FnDeltasWritten.j0 (k + c + 1) a0 ps ps.flatten true) = some true := by
    obtain ⟨b0, g1, g2⟩ := hlf 3000000 (Nat.le_refl _)
    by_cases hb : ps.flatten = []
    · refine ⟨0, fun k hk b hbb => ?_⟩
      rw [hb]
      by_cases cb : b = true
      · rw [if_pos cb, if_pos (by rfl), ← hb]; exact hj1 _
      · rw [if_neg cb, ← hb]; exact hj1 _
    · obtain ⟨first, rest, hfr⟩ : ∃ first rest, ps.flatten = first :: rest := by
        cases h : ps.flatten with
        | nil => exact absurd h hb
        | cons x ys => exact ⟨x, ys, rfl⟩
      have hne : ¬ ((ps.flatten.length : Int) = 0) := by rw [hfr, List.length_cons]; omega
      have hfi := hr first (by rw [hfr]; exact List.mem_cons_self)
      by_cases c50 : ps.length ≤ 50
      · have hd50 : decide ((ps.length : Int) > 50) = false := decide_eq_false (by omega)
        -- what the width is
        by_cases hok : ps.flatten.length ≤ 2000 ∧ ((a0 = 32 ∧ ∀ x ∈ ps.flatten, wrap32 x = x) ∨ a0 = 64)
        · obtain ⟨o1, o2⟩ := hok
          have hrl : rest.length ≤ 1999 := by rw [hfr, List.length_cons] at o1; omega
          have hmain : ∃ c, ∀ k, 3000000 ≤ k → laws_FnDeltasWritten.j0 (k + c + 1) a0 ps ps.flatten false = some true := by
            rcases o2 with ⟨rfl, o3⟩ | rfl
            · have o4 : ∀ x ∈ ps.flatten, -2147483648 ≤ x ∧ x ≤ 2147483647 := fun x hx => by
                have h5 := o3 x hx
                have h6 : ∀ y : Int, wrap32 y = y → -2147483648 ≤ y ∧ y ≤ 2147483647 := fun y hy => by unfold wrap32 at hy; omega
                exact h6 x h5
              have hdr : ∀ (c : Int) (l : List Int), ∀ x ∈ dif wrap32 c l, -2147483648 ≤ x ∧ x ≤ 2147483647 := by
                intro c l
                induction l generalizing c with
                | nil => intro x hx; simp [dif] at hx
                | cons y l ih =>
                  intro x hx
                  simp only [dif, List.mem_cons] at hx
                  rcases hx with rfl | hx
                  · unfold wrap32; omega
                  · exact ih y x hx
              refine j0_is 32 ps wrap32 wr32 first rest hfr hfi hrl wrap32_fit (fun x hx => o3 x (by rw [hfr]; exact hx)) (fun a b => by unfold wrap32; omega) (fun b hb i => wid32 b (fun x hx => hdr _ _ x (hb x hx)) i) (fun k hk => ?_)
              have hmm : ps.map (List.map wrap32) = ps := by
                have : ∀ p ∈ ps, p.map wrap32 = p := fun p hp => map32 p (fun x hx => o3 x (List.mem_flatten.2 ⟨p, hp, hx⟩))
                conv => rhs; rw [← List.map_id ps]
                exact List.map_congr_left (fun p hp => by rw [this p hp]; rfl)
              have hd := dw32_is ps h1 hpl ps.length 0 k [] (by omega) (by omega) (by omega) rfl
              have hfair : Fair32 ps := ⟨by omega, o1, hb, o4⟩
              unfold laws_deltasWritten.f
              rw [if_neg (by decide)]
              rw [hmm] at hd
              refine hd.trans ?_
              unfold impl_DeltasWritten32.f
              rw [if_pos hfair, Option.bind_some]
            · refine j0_is 64 ps wrap64 wr64 first rest hfr hfi hrl wrap64_fit (fun x hx => ?_) (fun a b => by unfold wrap64; omega) (fun b hb i => wid64 b (fun x hx => dif_fit wrap64 wrap64_fit _ _ x (hb x hx)) i) (fun k hk => ?_)
              · have h6 : ∀ y : Int, -9223372036854775808 ≤ y ∧ y ≤ 9223372036854775807 → wrap64 y = y := fun y hy => by unfold wrap64; omega
                exact h6 x (hr x (by rw [hfr]; exact hx))
              · have hfair : Fair64 ps := ⟨by omega, o1, hb, hr⟩
                unfold laws_deltasWritten.f
                rw [if_pos rfl]
                unfold impl_DeltasWritten64.f
                rw [if_pos hfair, Option.bind_some]
          obtain ⟨c, hc⟩ := hmain
          refine ⟨c, fun k hk b hbb => ?_⟩
          by_cases cb : b = true
          · rw [if_pos cb, if_neg hne, hd50]; exact hc k hk
          · rw [if_neg cb]; exact hj1 _
        · refine ⟨0, fun k hk b hbb => ?_⟩
          obtain ⟨b1, e1, e2⟩ := hlf (k + 0 + 1) (by omega)
          rw [hbb] at e1
          injection e1 with e1
          by_cases cb : b = true
          · exact absurd (e2 (e1 ▸ cb)) hok
          · rw [if_neg cb]; exact hj1 _
      · have hd50 : decide ((ps.length : Int) > 50) = true := decide_eq_true (by omega)
        refine ⟨0, fun k hk b hbb => ?_⟩
        by_cases cb : b = true
        · rw [if_pos cb, if_neg hne, hd50]; exact hj1 _
        · rw [if_neg cb]; exact hj1 _
  obtain ⟨c, hc⟩ := hj
  refine ⟨3000000 + c + 1, ?_⟩
  obtain ⟨b, g1, g2⟩ := hlf (3000000 + c + 1) (by omega)
  unfold laws_FnDeltasWritten.f
  rw [hz _ (by omega), Option.bind_some, if_pos rfl, hwh _ (by omega), Option.bind_some, g1, Option.bind_some]
  exact hc 3000000 (Nat.le_refl _) b g1
end Go.Proofs.Ytdekingogcmboaa.Q
