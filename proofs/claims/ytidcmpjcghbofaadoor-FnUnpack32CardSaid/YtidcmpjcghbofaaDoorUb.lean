/- The state of an unpacking: the reader, the word, what is unpacked so far; and its steps. -/
import Derived.Test.YtidcmpjcghbofaaDoorUa
import Derived.Recover
import Derived.Handy
import Derived.StillTailTactics
import Derived.Laws.CopyOwn
import Derived.Deep.RegionLaw
import Derived.Test.YtidcmpjcghbofaaDoorNum
namespace Go.Proofs.YtidcmpjcghbofaaDoor.Q
open Go.RowKit Go.Proofs.YtidcmpjcghbofaaDoorW.PrintWords Go.Proofs.YtidcmpjcghbofaaDoorW.PrintLast Go.Proofs.YtidcmpjcghbofaaDoorW.PrintMore
set_option linter.unusedVariables false
set_option linter.unusedSimpArgs false
/-- What the bytes read as, whatever becomes of the reader and of what is unpacked. -/
structure Src (w : World) (R O : Nat) (ad : Addr) (c : Nat) (l : List Int) : Prop where
  bytes : ∀ x ∈ l, 0 ≤ x ∧ x ≤ 255
  cap : l.length ≤ c
  small : l.length ≤ 1000
  cells : ∀ W, Kept w W (fun k => k = R ∨ k = O) → ∀ j, j < l.length → W.cell? (ad.add j) = some (.int .u8 (rd l j))

structure St (w : World) (R O : Nat) (ad : Addr) (c : Nat) (l : List Int) (k : Nat) (y : Int) (out : List Int) (W : World) : Prop where
  rdr : ∃ q, W.heap[R]? = some (.cells #[.slice (some ad) l.length c, .int .i64 ((4 * k : Nat) : Int), .int .i64 q] 43 (0, 0))
  inl : W.heap[w.heap.size]? = some (.cells #[.int .u32 y] 30 (0, 0))
  row : W.heap[O]? = some (.cells (out.map (Value.int .u32)).toArray 30 (0, 0))
  kept : Kept w W (fun k => k = R ∨ k = O)
  below : Below (min R O) w W
  lt : R < w.heap.size ∧ O < w.heap.size ∧ R ≠ O
  len : out.length = 32

section
variable {w W : World} {R O : Nat} {ad : Addr} {c : Nat} {l : List Int} {k : Nat} {y : Int} {out : List Int}

theorem St.start {q : Int} (hR : w.heap[R]? = some (.cells #[.slice (some ad) l.length c, .int .i64 0, .int .i64 q] 43 (0, 0)))
    (hO : w.heap[O]? = some (.cells (out.map (Value.int .u32)).toArray 30 (0, 0))) (hne : R ≠ O) (hlen : out.length = 32) : St w R O ad c l 0 0 out (w.alloc (.cells #[.int .u32 0] 30)) :=
  ⟨⟨q, blk_alloc hR _⟩, blk_new _ _, blk_alloc hO _, (Kept.refl w _).alloc _, (below_alloc (Below.refl _ w) _).mono (Nat.le_of_lt (Nat.lt_of_le_of_lt (Nat.min_le_left _ _) (blk_lt hR))), ⟨blk_lt hR, blk_lt hO, hne⟩, hlen⟩
theorem St.drew (h : St w R O ad c l k y out W) : St w R O ad c l k y out W.drew := ⟨h.rdr, h.inl, h.row, h.kept, below_drew h.below, h.lt, h.len⟩
theorem St.drewN (h : St w R O ad c l k y out W) (m : Nat) : St w R O ad c l k y out (W.drewN m) := ⟨h.rdr, h.inl, h.row, h.kept, pw_below_drewN h.below m, h.lt, h.len⟩
theorem St.cellI (h : St w R O ad c l k y out W) : W.cell? ⟨w.heap.size, 0, none⟩ = some (.int .u32 y) := (blk_cell h.inl 0).trans rfl
theorem St.cellO (h : St w R O ad c l k y out W) (i : Nat) (v : Int) (hv : out[i]? = some v) : W.cell? ⟨O, i, none⟩ = some (.int .u32 v) := by
  rw [blk_cell h.row i]; simp [hv]
theorem St.cellD (h : St w R O ad c l k y out W) : ∀ i, i < 32 → W.cell? ⟨O, i, none⟩ = some (.int .u32 (out.getD i 0)) := fun i hi => h.cellO i _ (by rw [List.getD_eq_getElem?_getD, List.getElem?_eq_getElem (by rw [h.len]; exact hi)]; rfl)
theorem St.freeO (h : St w R O ad c l k y out W) (i : Nat) : W.frozen? ⟨O, i, none⟩ = false := blk_frozen h.row i

theorem St.put (h : St w R O ad c l k y out W) {W1 : World} {i : Nat} {v : Int} (hw : W1 = W.setCell ⟨O, i, none⟩ (.int .u32 v)) : St w R O ad c l k y (out.set i v) W1 := by
  subst hw
  obtain ⟨q, hq⟩ := h.rdr
  obtain ⟨l1, l2, l3⟩ := h.lt
  refine ⟨⟨q, blk_far hq (p := ⟨O, i, none⟩) l3 _⟩, blk_far h.inl (p := ⟨O, i, none⟩) (by show w.heap.size ≠ O; omega) _, ?_, h.kept.setCell (.inl (.inr rfl)) _, Below.setCell (p := ⟨O, i, none⟩) h.below (Nat.min_le_right _ _) _, ⟨l1, l2, l3⟩, by rw [List.length_set]; exact h.len⟩
  have := blk_set h.row i (.int .u32 v)
  rw [this, List.map_set]
  simp

theorem word_is (hb : ∀ x ∈ l, 0 ≤ x ∧ x ≤ 255) (k : Nat) (hk : 4 * k + 4 ≤ l.length) :
    rd l ((4 * k + 0 : Nat) : Int) + 256 * rd l ((4 * k + 1 : Nat) : Int) + 65536 * rd l ((4 * k + 2 : Nat) : Int) + 16777216 * rd l ((4 * k + 3 : Nat) : Int) = ((word l k : Nat) : Int) := by
  rw [word_bytes l hb k hk]
  have e : ∀ j, j < l.length → rd l ((j : Nat) : Int) = ((l.getD j 0).toNat : Int) := by
    intro j hj
    show l.getD j 0 = _
    have hm := hb (l.getD j 0) (by rw [List.getD_eq_getElem?_getD, List.getElem?_eq_getElem hj]; exact List.getElem_mem hj)
    omega
  rw [e _ (by omega), e _ (by omega), e _ (by omega), e _ (by omega), Nat.add_zero]
  omega

theorem rd_byte (hb : ∀ x ∈ l, 0 ≤ x ∧ x ≤ 255) (i : Int) : 0 ≤ rd l i ∧ rd l i ≤ 255 := by
  show 0 ≤ l.getD i.toNat 0 ∧ l.getD i.toNat 0 ≤ 255
  rcases Nat.lt_or_ge i.toNat l.length with h | h
  · exact hb _ (by rw [List.getD_eq_getElem?_getD, List.getElem?_eq_getElem h]; exact List.getElem_mem h)
  · rw [List.getD_eq_getElem?_getD, List.getElem?_eq_none h]; simp

theorem St.little (H : Src w R O ad c l) (h : St w R O ad c l k y out W) (hk : 4 * k + 4 ≤ l.length) :
    Calls Tryd.prog 40 #[.iface 34 (.pointer (some ⟨R, 0, none⟩)), .pointer (some ⟨w.heap.size, 0, none⟩)] W fun e w' => e = .returned (.tuple #[]) ∧ St w R O ad c l (k + 1) ((word l k : Nat) : Int) out w' := by
  obtain ⟨q, hq⟩ := h.rdr
  obtain ⟨l1, l2, l3⟩ := h.lt
  refine (little_calls R ⟨w.heap.size, 0, none⟩ ad l.length c (4 * k) q y (fun j => rd l ((4 * k + j : Nat) : Int)) W hq h.cellI (blk_frozen h.inl 0) (by show R ≠ w.heap.size; omega) hk H.cap H.small (fun j => rd_byte H.bytes _)
    (fun W' hk' j hj => H.cells W' (h.kept.then_ hk' (fun k hk => .inl (.inl hk))) (4 * k + j) (by omega))).mono ?_
  rintro e w' ⟨rfl, w1, rfl, e1, e2, e3⟩
  rw [word_is H.bytes k hk]
  have hI := (e2.2 w.heap.size (blk_lt h.inl) (by omega)).trans h.inl
  have hO := (e2.2 O (blk_lt h.row) (by omega)).trans h.row
  refine ⟨rfl, ⟨-1, blk_far e1 (p := ⟨w.heap.size, 0, none⟩) (by show R ≠ w.heap.size; omega) _⟩, ?_, blk_far hO (p := ⟨w.heap.size, 0, none⟩) (by show O ≠ w.heap.size; omega) _, ?_, ?_, ⟨l1, l2, l3⟩, h.len⟩
  · exact blk_set hI 0 _
  · exact (h.kept.then_ e2 (fun k hk => .inl (.inl hk))).setCell (.inr (Nat.le_refl _)) _
  · exact Below.setCell (p := ⟨w.heap.size, 0, none⟩) (h.below.trans (e3.mono (Nat.min_le_left _ _))) (by show min R O ≤ w.heap.size; omega) _
end
end Go.Proofs.YtidcmpjcghbofaaDoor.Q
