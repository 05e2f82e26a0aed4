/- Numbers put: the encoder's state, plainly; a writer of bits made. -/
import Derived.Test.YtdekingogcmboaaFk32
import Derived.Test.YtdekingogcmboaaQDLa
namespace Go.Proofs.Ytdekingogcmboaa.Q
open Go.RowKit Go.Proofs.YtdekingogcmboaaW.PrintWords Go.Proofs.YtdekingogcmboaaW.PrintLast Go.Proofs.YtdekingogcmboaaW.PrintMore
set_option linter.unusedVariables false
set_option linter.unusedSimpArgs false
/-- Differences from number to number, wrapped. -/
def dif (wr : Int → Int) : Int → List Int → List Int
  | _, [] => []
  | c, x :: xs => wr (x - c) :: dif wr x xs
def lst : Int → List Int → Int
  | c, [] => c
  | _, x :: xs => lst x xs
theorem dif_snoc (wr : Int → Int) (c : Int) (xs : List Int) (x : Int) : dif wr c (xs ++ [x]) = dif wr c xs ++ [wr (x - lst c xs)] := by
  induction xs generalizing c with
  | nil => simp [dif, lst]
  | cons y ys ih => simp only [List.cons_append, dif, ih, lst]
theorem lst_snoc (c : Int) (xs : List Int) (x : Int) : lst c (xs ++ [x]) = x := by
  induction xs generalizing c with
  | nil => rfl
  | cons y ys ih => exact ih y
theorem dif_len (wr : Int → Int) (c : Int) (xs : List Int) : (dif wr c xs).length = xs.length := by
  induction xs generalizing c with
  | nil => rfl
  | cons y ys ih => simp [dif, ih]
theorem dif_fit (wr : Int → Int) (hw : ∀ x, -9223372036854775808 ≤ wr x ∧ wr x ≤ 9223372036854775807) (c : Int) (xs : List Int) : Fit (dif wr c xs) := by
  induction xs generalizing c with
  | nil => intro x hx; simp [dif] at hx
  | cons y ys ih =>
    intro x hx
    simp only [dif, List.mem_cons] at hx
    rcases hx with rfl | hx
    · exact hw _
    · exact ih y x hx
theorem block_len (ds : List Int) (h : Fit ds) : (block ds).length ≤ 1038 := by
  have hmn := minL_is ds h
  have h2 := (leb_len 10 (zz (minL ds)) (by have := hmn.1; unfold zz; split <;> omega) (by omega)).2
  have hw : ∀ j, wid (minL ds) (chunk ds j) ≤ 64 := fun j => (chunk_vals (chunk_fit h j) (fun d hd => hmn.2.1 d (List.mem_of_mem_drop (List.mem_of_mem_take hd))) hmn.1.1).2
  have e : bodies (minL ds) ds 4 = body (minL ds) (chunk ds 0) ++ body (minL ds) (chunk ds 1) ++ body (minL ds) (chunk ds 2) ++ body (minL ds) (chunk ds 3) := by
    rw [bodies_succ, bodies_succ, bodies_succ, bodies_succ]; simp [bodies]
  unfold block
  rw [e]
  simp only [List.length_append, wids_len, body_len]
  have := hw 0; have := hw 1; have := hw 2; have := hw 3
  omega
/-- What is written, and what waits, of numbers. -/
def Pt (wr : Int → Int) (first : Int) (rest ds out : List Int) : Prop :=
  ∃ bs : List (List Int), (∀ b ∈ bs, b.length = 128) ∧ dif wr first rest = bs.flatten ++ ds ∧ out = bs.flatMap block ∧ ds.length < 128
theorem flatten_len (bs : List (List Int)) (h : ∀ b ∈ bs, b.length = 128) : bs.flatten.length = 128 * bs.length := by
  induction bs with
  | nil => rfl
  | cons b bs ih => rw [List.flatten_cons, List.length_append, h b List.mem_cons_self, ih (fun c hc => h c (List.mem_cons_of_mem _ hc)), List.length_cons]; omega
theorem flatMap_len (bs : List (List Int)) (h : ∀ b ∈ bs, Fit b) : (bs.flatMap block).length ≤ 1038 * bs.length := by
  induction bs with
  | nil => simp
  | cons b bs ih =>
    have h1 := block_len b (h b List.mem_cons_self)
    have h2 := ih (fun c hc => h c (List.mem_cons_of_mem _ hc))
    rw [List.flatMap_cons, List.length_append, List.length_cons]
    omega
theorem Pt.facts {wr : Int → Int} {first : Int} {rest ds out : List Int} (h : Pt wr first rest ds out) (hw : ∀ x, -9223372036854775808 ≤ wr x ∧ wr x ≤ 9223372036854775807) (hl : rest.length ≤ 2000) : Fit ds ∧ ds.length < 128 ∧ out.length ≤ 20000 := by
  obtain ⟨bs, h1, h2, h3, h4⟩ := h
  have hf := dif_fit wr hw first rest
  rw [h2] at hf
  have hlen := congrArg List.length h2
  rw [dif_len, List.length_append, flatten_len bs h1] at hlen
  have hb : ∀ b ∈ bs, Fit b := fun b hb x hx => hf x (List.mem_append_left _ (List.mem_flatten.2 ⟨b, hb, hx⟩))
  have := flatMap_len bs hb
  rw [← h3] at this
  exact ⟨fun x hx => hf x (List.mem_append_right _ hx), h4, by omega⟩
theorem Pt.nil (wr : Int → Int) (first : Int) : Pt wr first [] [] [] := ⟨[], by simp, rfl, rfl, by simp⟩
/-- One more number: it waits, or a block is full. -/
theorem Pt.wait {wr : Int → Int} {first : Int} {rest ds out : List Int} (h : Pt wr first rest ds out) (x : Int) (hd : ds.length ≠ 127) : Pt wr first (rest ++ [x]) (ds ++ [wr (x - lst first rest)]) out := by
  obtain ⟨bs, h1, h2, h3, h4⟩ := h
  exact ⟨bs, h1, by rw [dif_snoc, h2, List.append_assoc], h3, by simp; omega⟩
theorem Pt.full {wr : Int → Int} {first : Int} {rest ds out : List Int} (h : Pt wr first rest ds out) (x : Int) (hd : ds.length = 127) : Pt wr first (rest ++ [x]) [] (out ++ block (ds ++ [wr (x - lst first rest)])) := by
  obtain ⟨bs, h1, h2, h3, h4⟩ := h
  refine ⟨bs ++ [ds ++ [wr (x - lst first rest)]], fun b hb => ?_, by rw [dif_snoc, h2]; simp, by rw [h3]; simp, by simp⟩
  rcases List.mem_append.1 hb with hb | hb
  · exact h1 b hb
  · have : b = ds ++ [wr (x - lst first rest)] := by simpa using hb
    rw [this]; simp; omega
/-- All blocks but rows of numbers stay. -/
def Keep2 (w w' : World) : Prop := ∀ (g : Nat) (t : TypeId) (cs : Array Value), w.heap[g]? = some (.cells cs t (0, 0)) → t ≠ 2 → w'.heap[g]? = some (.cells cs t (0, 0))
theorem Sm.keep2 {w w' : World} {lo W S : Nat} {out : List Int} (h : Sm w lo W S out) (k : Keep2 w w') : Sm w' lo W S out := by
  obtain ⟨pre, N, bits, ⟨hN, rs, B, D, z, q, G, b, s, l⟩, h0⟩ := h
  exact ⟨pre, N, bits, ⟨hN, rs, B, D, z, q, G, ⟨k _ _ _ b.1 (by decide), b.2⟩, ⟨k _ _ _ s.s (by decide), ⟨k _ _ _ s.b.1 (by decide), k _ _ _ s.b.2 (by decide)⟩, s.le, s.lo, s.hi⟩, l⟩, h0⟩
theorem keep2_of_grown {w w' : World} {lo : Nat} {dv : Value} {ds : List Int} (h : Dl w lo dv ds) (hg : w.grownBy w' dv.ownBlock) : Keep2 w w' := by
  intro g t cs e ht
  refine (hg.block g (blk_lt e) (fun hb => ?_)).trans e
  obtain ⟨cells, hc⟩ := own_typed h g hb.symm
  rw [hc] at e
  simp at e
  exact ht e.2.symm
theorem Dl.R {w : World} {lo : Nat} {dv : Value} {ds : List Int} (h : Dl w lo dv ds) : Kd.R (Kd.int .i64) 2 w lo (fun _ => True) dv ds := Kd.R_of_own h (fun _ _ => trivial)
theorem Dl.of_R {w : World} {lo : Nat} {dv : Value} {ds : List Int} (h : Kd.R (Kd.int .i64) 2 w lo (fun _ => True) dv ds) : Dl w lo dv ds := Kd.own_of_R h
/-- A new writer of bits. -/
theorem newbw_calls (S : Nat) (w : World) : Calls Try.prog 28 #[.iface 68 (.pointer (some ⟨S, 0, none⟩))] w fun e w' => e = .returned (.pointer (some ⟨w.heap.size, 0, none⟩)) ∧ w' = w.alloc (.cells (bwL (.iface 68 (.pointer (some ⟨S, 0, none⟩))) 0 0 0 (List.replicate 18 0)).toArray 95) := by
  go_enter Try.func28, Try.ntmps28
  go_wp2
  go_ret
  exact ⟨rfl, rfl⟩
/-- A sink that nothing was written to. -/
def Sk (w : World) (lo S : Nat) : Prop := ∃ B D k q G, Snk w S B D (List.replicate k 0) 0 ((q : Nat) : Int) G ∧ lo ≤ S ∧ lo ≤ B ∧ lo ≤ D
theorem Sk.sm {w : World} {lo S : Nat} (h : Sk w lo S) : Sm (w.alloc (.cells (bwL (.iface 68 (.pointer (some ⟨S, 0, none⟩))) 0 0 0 (List.replicate 18 0)).toArray 95)) lo w.heap.size S [] := by
  obtain ⟨B, D, k, q, G, s, l1, l2, l3⟩ := h
  have hlt := blk_lt s.s
  have s' : Snk w S B D (thr [] 0 0 ++ List.replicate k 0) 0 ((q : Nat) : Int) G := by simpa [thr, toB] using s
  refine ⟨[], 0, 0, ⟨by simp, List.replicate 18 0, B, D, k, q, G, ⟨blk_new w _, by simp⟩, ⟨blk_alloc s'.s _, ⟨blk_alloc s'.b.1 _, blk_alloc s'.b.2 _⟩, s'.le, s'.lo, s'.hi⟩, by omega, l1, l2, l3⟩, rfl, by simp [toB]⟩
end Go.Proofs.Ytdekingogcmboaa.Q
