/- SetBitTo. -/
import Derived.Test.YtgccaabpckfhlaaGreatDoorZe
import Derived.Outline
namespace Go.Proofs.YtgccaabpckfhlaaGreatDoor.Q
open Go.RowKit Go.Proofs.YtgccaabpckfhlaaGreatDoorW.PrintWords Go.Proofs.YtgccaabpckfhlaaGreatDoorW.PrintLast Go.Proofs.YtgccaabpckfhlaaGreatDoorW.PrintMore
set_option linter.unusedVariables false
set_option linter.unusedSimpArgs false
/-- The tables of bits, as they lie. -/
def Glob (w : World) : Prop := ∀ r : Nat, r < 8 → w.cell? ⟨2, r, none⟩ = some (.int .u8 ((2 ^ r : Nat) : Int)) ∧ w.cell? ⟨3, r, none⟩ = some (.int .u8 (255 - ((2 ^ r : Nat) : Int)))
theorem Glob.block {w : World} (h : Glob w) : 2 < w.heap.size ∧ 3 < w.heap.size := ⟨World.block_lt_of_cell? w _ (h 0 (by omega)).1, World.block_lt_of_cell? w _ (h 0 (by omega)).2⟩
theorem Glob.kept {w w' : World} {S : Nat → Prop} (h : Glob w) (hk : Kept w w' S) (h2 : ¬ S 2) (h3 : ¬ S 3) : Glob w' := fun r hr => ⟨cell_kept (h r hr).1 hk h2, cell_kept (h r hr).2 hk h3⟩
/-- Bytes that one may write: those of a slice from the head of block O on. -/
def Ob (w : World) (B O co : Nat) (bs : List Int) : Prop := 0 < bs.length → Kd.R (Kd.int .u8) 5 w B (fun k => k = O) (.slice (some ⟨O, 0, none⟩) bs.length co) bs
theorem Ob.kept {w w' : World} {B O co : Nat} {bs : List Int} {S : Nat → Prop} (h : Ob w B O co bs) (hk : Kept w w' S) (hn : ¬ S O) : Ob w' B O co bs := fun hp => Kd.R_kept (h hp) hk (fun k hk => by rw [hk]; exact hn)
theorem Ob.put {w : World} {B O co : Nat} {bs : List Int} (h : Ob w B O co bs) (i : Nat) (v : Int) : Ob (w.setCell ⟨O, i, none⟩ (.int .u8 v)) B O co (bs.set i v) := fun hp => by
  have := (Kd.R_putg (h (by simpa using hp)) (i : Int) v).1
  rw [Int.toNat_natCast] at this
  rw [List.length_set]
  exact this
theorem Ob.cell {w : World} {B O co : Nat} {bs : List Int} (h : Ob w B O co bs) (i : Nat) (hi : i < bs.length) : w.cell? ⟨O, i, none⟩ = some (.int .u8 (bs.getD i 0)) ∧ w.frozen? ⟨O, i, none⟩ = false := by
  have := Kd.R_celln (0 : Int) (h (by omega)) (i : Int) (by omega) (by omega)
  simpa [rdOf] using this
/-- What a call turns: the blocks of S and what is new. -/
structure Tn (S : Nat → Prop) (w w' : World) : Prop where
  os : w'.os = w.os
  tape : w'.tape = w.tape
  output : w'.output = w.output
  kept : Kept w w' S
theorem Tn.refl (S : Nat → Prop) (w : World) : Tn S w w := ⟨rfl, rfl, rfl, Kept.refl _ _⟩
theorem Tn.then_ {S S2 : Nat → Prop} {w w1 w2 : World} (h : Tn S w w1) (k : Tn S2 w1 w2) (hs : ∀ k, S2 k → S k ∨ w.heap.size ≤ k) : Tn S w w2 := ⟨k.os.trans h.os, k.tape.trans h.tape, k.output.trans h.output, h.kept.then_ k.kept hs⟩
theorem Tn.mono {S S2 : Nat → Prop} {w w1 : World} (h : Tn S w w1) (hs : ∀ k, S k → S2 k) : Tn S2 w w1 := ⟨h.os, h.tape, h.output, h.kept.mono hs⟩
theorem Tn.drew {S : Nat → Prop} {w w1 : World} (h : Tn S w w1) : Tn S w w1.drew := ⟨h.os, h.tape, h.output, h.kept⟩
theorem Tn.drewN {S : Nat → Prop} {w w1 : World} (h : Tn S w w1) (n : Nat) : Tn S w (w1.drewN n) := ⟨h.os, h.tape, h.output, h.kept.drewN n⟩
theorem Tn.of_below {w w1 : World} (h : Below w.heap.size w w1) (S : Nat → Prop) : Tn S w w1 := ⟨h.os, h.tape, h.output, Kept.of_below h S⟩
theorem Tn.alloc {S : Nat → Prop} {w w1 : World} (h : Tn S w w1) (o : Obj) : Tn S w (w1.alloc o) := h.then_ (Tn.of_below (below_alloc (Below.refl _ _) o) (fun _ => False)) (fun _ h => h.elim)
theorem Tn.setCell {S : Nat → Prop} {w w1 : World} (h : Tn S w w1) {p : Addr} (hp : S p.block ∨ w.heap.size ≤ p.block) (u : Value) : Tn S w (w1.setCell p u) := ⟨h.os, h.tape, h.output, h.kept.setCell hp u⟩
theorem Tn.below {S : Nat → Prop} {w w1 : World} {B : Nat} (h : Tn S w w1) (hB : B ≤ w.heap.size) (hS : ∀ k, S k → B ≤ k) : Below B w w1 := ⟨h.os, h.tape, h.output, h.kept.1, fun i hi => h.kept.2 i (by omega) (fun hs => by have := hS i hs; omega)⟩
/-- A bit of a byte, set or not. -/
def bitTo (x : Int) (r : Nat) (v : Bool) : Int := if v then bits .or .u8 x ((2 ^ r : Nat) : Int) else bits .and .u8 x (255 - ((2 ^ r : Nat) : Int))
set_option maxHeartbeats 1000000 in
set_option maxRecDepth 100000 in
theorem setBit_calls (B O k m c co i : Nat) (bs : List Int) (w : World) (h : Ob w B O co bs) (hk : k + m = bs.length) (hi : i / 8 < m) (hm : i ≤ 10000) (hG : Glob w) :
    Calls Tryz.prog 77 #[.slice (some ⟨O, k, none⟩) m c, .int .i64 (i : Int)] w fun e w' => e = .returned (.tuple #[]) ∧ Ob w' B O co (bs.set (k + i / 8) (bitTo (bs.getD (k + i / 8) 0) (i % 8) true)) ∧ Tn (fun k => k = O) w w' := by
  have hi2 : k + i / 8 < bs.length := by omega
  have hr8 : i % 8 < 8 := Nat.mod_lt _ (by omega)
  have e1 : (IntKind.u64.wrap (i : Int)) = (i : Int) := by rw [IntKind.wrap_u64]; omega
  have e2 : IntKind.u64.wrap ((i : Int) / 8) = ((i / 8 : Nat) : Int) := by rw [IntKind.wrap_u64]; omega
  have e3 : Int.tmod (IntKind.u8.wrap (i : Int)) 8 = ((i % 8 : Nat) : Int) := by rw [IntKind.wrap_u8, Int.tmod_eq_emod_of_nonneg (by omega)]; omega
  generalize i / 8 = q at hi hi2 e2 ⊢
  generalize i % 8 = r at hr8 e3 ⊢
  obtain ⟨c1, z1⟩ := h.cell (k + q) hi2
  have c2 := (hG r hr8).1
  have H := Aside0.mk h
  have g1 : (q : Int) < (m : Int) := by omega
  have g2 : (r : Int) < 8 := by omega
  unfold bitTo
  simp only [if_true, if_false, Bool.false_eq_true, reduceIte]
  generalize ((2 ^ r : Nat) : Int) = p at c2 ⊢
  generalize bs.getD (k + q) 0 = x at c1 ⊢
  clear h hG hk hi hm hi2
  go_enter Tryz.func77, Tryz.ntmps77
  go_wp2
  go_still_tail 13, (by kernel_rfl)
  change wpList _ _ _ _ _ w.drew
  go_wp2
  go_end0
  exact ⟨rfl, fun hp => Kd.R_drew (Ob.put H.out (k + q) _ hp), ((Tn.refl (fun k => k = O) w).setCell (p := ⟨O, k + q, none⟩) (.inl rfl) _).drew⟩
set_option maxHeartbeats 1000000 in
set_option maxRecDepth 100000 in
theorem clearBit_calls (B O k m c co i : Nat) (bs : List Int) (w : World) (h : Ob w B O co bs) (hk : k + m = bs.length) (hi : i / 8 < m) (hm : i ≤ 10000) (hG : Glob w) :
    Calls Tryz.prog 78 #[.slice (some ⟨O, k, none⟩) m c, .int .i64 (i : Int)] w fun e w' => e = .returned (.tuple #[]) ∧ Ob w' B O co (bs.set (k + i / 8) (bitTo (bs.getD (k + i / 8) 0) (i % 8) false)) ∧ Tn (fun k => k = O) w w' := by
  have hi2 : k + i / 8 < bs.length := by omega
  have hr8 : i % 8 < 8 := Nat.mod_lt _ (by omega)
  have e1 : (IntKind.u64.wrap (i : Int)) = (i : Int) := by rw [IntKind.wrap_u64]; omega
  have e2 : IntKind.u64.wrap ((i : Int) / 8) = ((i / 8 : Nat) : Int) := by rw [IntKind.wrap_u64]; omega
  have e3 : Int.tmod (IntKind.u8.wrap (i : Int)) 8 = ((i % 8 : Nat) : Int) := by rw [IntKind.wrap_u8, Int.tmod_eq_emod_of_nonneg (by omega)]; omega
  generalize i / 8 = q at hi hi2 e2 ⊢
  generalize i % 8 = r at hr8 e3 ⊢
  obtain ⟨c1, z1⟩ := h.cell (k + q) hi2
  have c2 := (hG r hr8).2
  have H := Aside0.mk h
  have g1 : (q : Int) < (m : Int) := by omega
  have g2 : (r : Int) < 8 := by omega
  unfold bitTo
  simp only [if_true, if_false, Bool.false_eq_true, reduceIte]
  generalize (255 - ((2 ^ r : Nat) : Int)) = p at c2 ⊢
  generalize bs.getD (k + q) 0 = x at c1 ⊢
  clear h hG hk hi hm hi2
  go_enter Tryz.func78, Tryz.ntmps78
  go_wp2
  go_still_tail 13, (by kernel_rfl)
  change wpList _ _ _ _ _ w.drew
  go_wp2
  go_end0
  exact ⟨rfl, fun hp => Kd.R_drew (Ob.put H.out (k + q) _ hp), ((Tn.refl (fun k => k = O) w).setCell (p := ⟨O, k + q, none⟩) (.inl rfl) _).drew⟩
set_option maxHeartbeats 1000000 in
set_option maxRecDepth 100000 in
theorem setBitTo_calls (B O k m c co i : Nat) (v : Bool) (bs : List Int) (w : World) (h : Ob w B O co bs) (hk : k + m = bs.length) (hi : i / 8 < m) (hm : i ≤ 10000) (hG : Glob w) :
    Calls Tryz.prog 66 #[.slice (some ⟨O, k, none⟩) m c, .int .i64 (i : Int), .bool v] w fun e w' => e = .returned (.tuple #[]) ∧ Ob w' B O co (bs.set (k + i / 8) (bitTo (bs.getD (k + i / 8) 0) (i % 8) v)) ∧ Tn (fun k => k = O) w w' := by
  have H1 := Aside0.mk (setBit_calls B O k m c co i bs w h hk hi hm hG)
  have H2 := Aside0.mk (clearBit_calls B O k m c co i bs w h hk hi hm hG)
  clear h hk hi hm hG
  cases v
  · go_enter Tryz.func66, Tryz.ntmps66
    go_wp2_with (first | (go_at_call 78; refine H2.out.mono ?_; rintro e w1 ⟨rfl, e1, e2⟩; have E := Aside0.mk (And.intro e1 e2); clear e1 e2))
    go_end0
    exact ⟨rfl, E.out⟩
  · go_enter Tryz.func66, Tryz.ntmps66
    go_wp2_with (first | (go_at_call 77; refine H1.out.mono ?_; rintro e w1 ⟨rfl, e1, e2⟩; have E := Aside0.mk (And.intro e1 e2); clear e1 e2))
    go_end0
    exact ⟨rfl, E.out⟩
end Go.Proofs.YtgccaabpckfhlaaGreatDoor.Q
