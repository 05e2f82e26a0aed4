/- The writer of runs: its object; a run of packed numbers. -/
import Derived.Test.YtiieljnllgeoeaaGreatFX
import Derived.Test.YtiieljnllgeoeaaGreatRa
namespace Go.Proofs.YtiieljnllgeoeaaGreat.Q
open Go.RowKit Go.Proofs.YtiieljnllgeoeaaGreatW.PrintWords Go.Proofs.YtiieljnllgeoeaaGreatW.PrintLast Go.Proofs.YtiieljnllgeoeaaGreatW.PrintMore
set_option linter.unusedVariables false
set_option linter.unusedSimpArgs false
def reL (W Q k wd cur rep lit : Nat) (off g : Int) : Array Value := #[.pointer (some ⟨W, 0, none⟩), .slice (some ⟨Q, 0, none⟩) k 8, .int .i64 (wd : Int), .int .u64 (cur : Int), .int .i32 (rep : Int), .int .i32 (lit : Int), .int .i64 off, .int .u8 g]
/-- The object, and the row of the numbers that wait. -/
structure Ob (w : World) (lo R W Q wd : Nat) (bf : List Nat) (cur rep lit : Nat) (off : Int) : Prop where
 r : ∃ g, w.heap[R]? = some (.cells (reL W Q bf.length wd cur rep lit off g) 181 (0, 0))
 q : ∃ junk : List Nat, (bf ++ junk).length = 8 ∧ w.heap[Q]? = some (.cells ((bf ++ junk).map fun x => Value.int .u64 ((x : Nat) : Int)).toArray 26 (0, 0))
 lr : lo ≤ R
 lq : lo ≤ Q
section
variable {w : World} {lo R W Q wd cur rep lit : Nat} {bf : List Nat} {off : Int}
theorem Ob.c0 (h : Ob w lo R W Q wd bf cur rep lit off) : w.cell? ⟨R, 0, none⟩ = some (.pointer (some ⟨W, 0, none⟩)) := by obtain ⟨g, h⟩ := h.r; exact (blk_cell h 0).trans rfl
theorem Ob.c1 (h : Ob w lo R W Q wd bf cur rep lit off) : w.cell? ⟨R, 1, none⟩ = some (.slice (some ⟨Q, 0, none⟩) bf.length 8) := by obtain ⟨g, h⟩ := h.r; exact (blk_cell h 1).trans rfl
theorem Ob.c2 (h : Ob w lo R W Q wd bf cur rep lit off) : w.cell? ⟨R, 2, none⟩ = some (.int .i64 (wd : Int)) := by obtain ⟨g, h⟩ := h.r; exact (blk_cell h 2).trans rfl
theorem Ob.c3 (h : Ob w lo R W Q wd bf cur rep lit off) : w.cell? ⟨R, 3, none⟩ = some (.int .u64 (cur : Int)) := by obtain ⟨g, h⟩ := h.r; exact (blk_cell h 3).trans rfl
theorem Ob.c4 (h : Ob w lo R W Q wd bf cur rep lit off) : w.cell? ⟨R, 4, none⟩ = some (.int .i32 (rep : Int)) := by obtain ⟨g, h⟩ := h.r; exact (blk_cell h 4).trans rfl
theorem Ob.c5 (h : Ob w lo R W Q wd bf cur rep lit off) : w.cell? ⟨R, 5, none⟩ = some (.int .i32 (lit : Int)) := by obtain ⟨g, h⟩ := h.r; exact (blk_cell h 5).trans rfl
theorem Ob.c6 (h : Ob w lo R W Q wd bf cur rep lit off) : w.cell? ⟨R, 6, none⟩ = some (.int .i64 off) := by obtain ⟨g, h⟩ := h.r; exact (blk_cell h 6).trans rfl
theorem Ob.c7 (h : Ob w lo R W Q wd bf cur rep lit off) : ∃ g, w.cell? ⟨R, 7, none⟩ = some (.int .u8 g) := by obtain ⟨g, h⟩ := h.r; exact ⟨g, (blk_cell h 7).trans rfl⟩
theorem Ob.f (h : Ob w lo R W Q wd bf cur rep lit off) (j : Nat) : w.frozen? ⟨R, j, none⟩ = false := by obtain ⟨g, h⟩ := h.r; exact blk_frozen h j
theorem Ob.set (h : Ob w lo R W Q wd bf cur rep lit off) (j : Nat) (v : Value) {bf' : List Nat} {cur' rep' lit' : Nat} {off' : Int} (hb : ∃ t, bf = bf' ++ t) (hs : ∀ g, ∃ g', (reL W Q bf.length wd cur rep lit off g).set! j v = reL W Q bf'.length wd cur' rep' lit' off' g') : Ob (w.setCell ⟨R, j, none⟩ v) lo R W Q wd bf' cur' rep' lit' off' := by
 obtain ⟨⟨g, hr⟩, ⟨junk, hl, hq⟩, l1, l2⟩ := h
 have hne := blk_ne hq hr (by decide)
 obtain ⟨g', hg⟩ := hs g
 obtain ⟨t, rfl⟩ := hb
 refine ⟨⟨g', (blk_set hr j v).trans (by rw [← hg]; simp)⟩, ⟨t ++ junk, by rw [← List.append_assoc]; exact hl, by rw [← List.append_assoc]; exact blk_far hq (p := ⟨R, j, none⟩) hne v⟩, l1, l2⟩
theorem Ob.s1 (h : Ob w lo R W Q wd bf cur rep lit off) : Ob (w.setCell ⟨R, 1, none⟩ (.slice (some ⟨Q, 0, none⟩) 0 8)) lo R W Q wd [] cur rep lit off := h.set 1 _ ⟨bf, rfl⟩ (fun g => ⟨g, rfl⟩)
theorem Ob.s3 (h : Ob w lo R W Q wd bf cur rep lit off) (v : Nat) : Ob (w.setCell ⟨R, 3, none⟩ (.int .u64 (v : Int))) lo R W Q wd bf v rep lit off := h.set 3 _ ⟨[], by simp⟩ (fun g => ⟨g, rfl⟩)
theorem Ob.s4 (h : Ob w lo R W Q wd bf cur rep lit off) (v : Nat) : Ob (w.setCell ⟨R, 4, none⟩ (.int .i32 (v : Int))) lo R W Q wd bf cur v lit off := h.set 4 _ ⟨[], by simp⟩ (fun g => ⟨g, rfl⟩)
theorem Ob.z4 (h : Ob w lo R W Q wd bf cur rep lit off) : Ob (w.setCell ⟨R, 4, none⟩ (.int .i32 0)) lo R W Q wd bf cur 0 lit off := h.set 4 _ ⟨[], by simp⟩ (fun g => ⟨g, rfl⟩)
theorem Ob.o4 (h : Ob w lo R W Q wd bf cur rep lit off) : Ob (w.setCell ⟨R, 4, none⟩ (.int .i32 1)) lo R W Q wd bf cur 1 lit off := h.set 4 _ ⟨[], by simp⟩ (fun g => ⟨g, rfl⟩)
theorem Ob.z5 (h : Ob w lo R W Q wd bf cur rep lit off) : Ob (w.setCell ⟨R, 5, none⟩ (.int .i32 0)) lo R W Q wd bf cur rep 0 off := h.set 5 _ ⟨[], by simp⟩ (fun g => ⟨g, rfl⟩)
theorem Ob.s5 (h : Ob w lo R W Q wd bf cur rep lit off) (v : Nat) : Ob (w.setCell ⟨R, 5, none⟩ (.int .i32 (v : Int))) lo R W Q wd bf cur rep v off := h.set 5 _ ⟨[], by simp⟩ (fun g => ⟨g, rfl⟩)
theorem Ob.s6 (h : Ob w lo R W Q wd bf cur rep lit off) (v : Int) : Ob (w.setCell ⟨R, 6, none⟩ (.int .i64 v)) lo R W Q wd bf cur rep lit v := h.set 6 _ ⟨[], by simp⟩ (fun g => ⟨g, rfl⟩)
theorem Ob.s7 (h : Ob w lo R W Q wd bf cur rep lit off) (v : Int) : Ob (w.setCell ⟨R, 7, none⟩ (.int .u8 v)) lo R W Q wd bf cur rep lit off := h.set 7 _ ⟨[], by simp⟩ (fun g => ⟨v, rfl⟩)
theorem Ob.fr {w' : World} (h : Ob w lo R W Q wd bf cur rep lit off) (f : Fr lo w w') : Ob w' lo R W Q wd bf cur rep lit off := by
 obtain ⟨⟨g, hr⟩, ⟨junk, hl, hq⟩, l1, l2⟩ := h
 exact ⟨⟨g, f.keep R 181 _ hr (by decide) (by decide)⟩, ⟨junk, hl, f.keep Q 26 _ hq (by decide) (by decide)⟩, l1, l2⟩
theorem Ob.drew (h : Ob w lo R W Q wd bf cur rep lit off) : Ob w.drew lo R W Q wd bf cur rep lit off := ⟨h.r, h.q, h.lr, h.lq⟩
theorem Ob.drewN (h : Ob w lo R W Q wd bf cur rep lit off) (n : Nat) : Ob (w.drewN n) lo R W Q wd bf cur rep lit off := ⟨h.r, h.q, h.lr, h.lq⟩
theorem Ob.at (h : Ob w lo R W Q wd bf cur rep lit off) (j : Nat) (hj : j < bf.length) : w.cell? ⟨Q, j, none⟩ = some (.int .u64 ((bf.getD j 0 : Nat) : Int)) := by
 obtain ⟨junk, hl, hq⟩ := h.q
 rw [blk_cell hq j]
 simp only [List.getElem?_toArray, List.getElem?_map, List.getElem?_append_left hj, List.getD_eq_getElem?_getD, List.getElem?_eq_getElem hj]
 rfl
end
end Go.Proofs.YtiieljnllgeoeaaGreat.Q
