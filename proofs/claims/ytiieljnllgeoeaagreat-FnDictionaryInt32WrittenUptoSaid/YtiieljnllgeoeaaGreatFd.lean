/- The writer over a buffer: written to at a place. -/
import Derived.Test.YtiieljnllgeoeaaGreatFc
import Derived.Outline
namespace Go.Proofs.YtiieljnllgeoeaaGreat.Q
open Go.RowKit Go.Proofs.YtiieljnllgeoeaaGreatW.PrintWords Go.Proofs.YtiieljnllgeoeaaGreatW.PrintLast Go.Proofs.YtiieljnllgeoeaaGreatW.PrintMore
set_option linter.unusedVariables false
set_option linter.unusedSimpArgs false
set_option maxHeartbeats 2000000 in
set_option maxRecDepth 100000 in
theorem resize_calls (B D : Nat) (l : List Int) (q : Int) (G pos : Nat) (w : World) (h : IsBuf w B D l q G) (hp : pos ≤ l.length) (hl : l.length ≤ 16777216) :
  Calls Tryz.prog 67 #[.pointer (some ⟨B, 0, none⟩), .int .i64 (pos : Int), .bool false] w fun e w' => e = .returned (.tuple #[]) ∧ w' = w.setCell ⟨B, 2, none⟩ (.int .i64 (pos : Int)) := by
 have HR := Aside0.mk (fun W (hW : IsBuf W B D l q G) => reserve_same B D pos l q G (by omega) (by omega) W hp hW)
 have r2 : w.cell? ⟨B, 2, none⟩ = some (.int .i64 q) := (blk_cell h.1 2).trans rfl
 have z2 : w.frozen? ⟨B, 2, none⟩ = false := blk_frozen h.1 2
 have H := Aside0.mk h
 clear h
 go_enter Tryz.func67, Tryz.ntmps67
 go_wp2_with (first | (go_at_call 37; refine (HR.out _ H.out).mono ?_; rintro e w1 ⟨rfl, hw1⟩; subst w1))

 go_end0
 exact ⟨rfl, rfl⟩
set_option maxHeartbeats 2000000 in
set_option maxRecDepth 100000 in
theorem resizens_calls (B D : Nat) (l : List Int) (q : Int) (G pos : Nat) (w : World) (h : IsBuf w B D l q G) (hp : pos ≤ l.length) (hl : l.length ≤ 16777216) :
  Calls Tryz.prog 42 #[.pointer (some ⟨B, 0, none⟩), .int .i64 (pos : Int)] w fun e w' => e = .returned (.tuple #[]) ∧ w' = w.setCell ⟨B, 2, none⟩ (.int .i64 (pos : Int)) := by
 have HR := Aside0.mk (resize_calls B D l q G pos w h hp hl)
 clear h
 go_enter Tryz.func42, Tryz.ntmps42
 go_wp2_with (first | (go_at_call 67; refine HR.out.mono ?_; rintro e w1 ⟨rfl, hw1⟩; subst w1))
 go_end0
 exact ⟨rfl, rfl⟩
/-- What a write at a place comes to. -/
def Wat (w w' : World) (S B D : Nat) (l : List Int) (off : Nat) (cs : List Int) (G : Nat) : Prop :=
 ∃ D' q' k, Snk w' S B D' ((l ++ List.replicate k 0).take off ++ cs ++ (l ++ List.replicate k 0).drop (off + cs.length)) 0 ((q' : Nat) : Int) G ∧ off + cs.length ≤ l.length + k ∧ (D' = D ∨ w.heap.size ≤ D') ∧ Kept w w' (fun k => k = B ∨ k = D) ∧ Below (min B D) w w'
end Go.Proofs.YtiieljnllgeoeaaGreat.Q
