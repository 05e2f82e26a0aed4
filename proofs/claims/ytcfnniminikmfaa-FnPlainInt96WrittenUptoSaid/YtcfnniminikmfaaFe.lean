/- The encoder's bytes, handed over. -/
import Derived.Test.YtcfnniminikmfaaFd
import Derived.Outline
namespace Go.Proofs.Ytcfnniminikmfaa.Q
open Go.RowKit Go.Proofs.YtcfnniminikmfaaW.PrintWords Go.Proofs.YtcfnniminikmfaaW.PrintLast Go.Proofs.YtcfnniminikmfaaW.PrintMore
set_option linter.unusedVariables false
set_option linter.unusedSimpArgs false
set_option maxHeartbeats 2000000 in
set_option maxRecDepth 100000 in
theorem resize_calls (B D : Nat) (l : List Int) (q : Int) (G pos : Nat) (w : World) (h : IsBuf w B D l q G) (hp : pos ≤ l.length) (hl : l.length ≤ 16777216) :
    Calls Try.prog 84 #[.pointer (some ⟨B, 0, none⟩), .int .i64 (pos : Int), .bool false] w fun e w' => e = .returned (.tuple #[]) ∧ w' = w.setCell ⟨B, 2, none⟩ (.int .i64 (pos : Int)) := by
  have HR := Aside0.mk (fun W (hW : IsBuf W B D l q G) => reserve_same B D pos l q G (by omega) (by omega) W hp hW)
  have r2 : w.cell? ⟨B, 2, none⟩ = some (.int .i64 q) := (blk_cell h.1 2).trans rfl
  have z2 : w.frozen? ⟨B, 2, none⟩ = false := blk_frozen h.1 2
  have H := Aside0.mk h
  clear h
  go_enter Try.func84, Try.ntmps84
  go_wp2_with (first | (go_at_call 80; refine (HR.out _ H.out).mono ?_; rintro e w1 ⟨rfl, hw1⟩; subst w1))

  go_end0
  exact ⟨rfl, rfl⟩
set_option maxHeartbeats 2000000 in
set_option maxRecDepth 100000 in
theorem resizens_calls (B D : Nat) (l : List Int) (q : Int) (G pos : Nat) (w : World) (h : IsBuf w B D l q G) (hp : pos ≤ l.length) (hl : l.length ≤ 16777216) :
    Calls Try.prog 70 #[.pointer (some ⟨B, 0, none⟩), .int .i64 (pos : Int)] w fun e w' => e = .returned (.tuple #[]) ∧ w' = w.setCell ⟨B, 2, none⟩ (.int .i64 (pos : Int)) := by
  have HR := Aside0.mk (resize_calls B D l q G pos w h hp hl)
  clear h
  go_enter Try.func70, Try.ntmps70
  go_wp2_with (first | (go_at_call 84; refine HR.out.mono ?_; rintro e w1 ⟨rfl, hw1⟩; subst w1))
  go_end0
  exact ⟨rfl, rfl⟩
set_option maxHeartbeats 2000000 in
set_option maxRecDepth 100000 in
theorem reset_calls (S : Nat) (pos : Int) (w : World) (h : w.heap[S]? = some (sink0 pos)) :
    Calls Try.prog 71 #[.pointer (some ⟨S, 0, none⟩), .int .i64 0] w fun e w' => e = .returned (.tuple #[]) ∧ Kept w w' (fun k => k = S) ∧ Below S w w' := by
  have s0 : w.cell? ⟨S, 0, none⟩ = some (.pointer none) := (blk_cell h 0).trans rfl
  have s1 : w.cell? ⟨S, 1, none⟩ = some (.int .i64 pos) := (blk_cell h 1).trans rfl
  have s2 : w.cell? ⟨S, 2, none⟩ = some (.int .i64 0) := (blk_cell h 2).trans rfl
  have z1 : w.frozen? ⟨S, 1, none⟩ = false := blk_frozen h 1
  have z2 : w.frozen? ⟨S, 2, none⟩ = false := blk_frozen h 2
  have HR := Aside0.mk (reserve_new0 S ((w.setCell ⟨S, 1, none⟩ (.int .i64 0)).setCell ⟨S, 2, none⟩ (.int .i64 0)) (blk_set (blk_set h 1 (.int .i64 0)) 2 (.int .i64 0)))
  have hk : Kept w ((w.setCell ⟨S, 1, none⟩ (.int .i64 0)).setCell ⟨S, 2, none⟩ (.int .i64 0)) (fun k => k = S) := ((Kept.refl w (fun k => k = S)).setCell (.inl rfl) _).setCell (.inl rfl) _
  have hb : Below S w ((w.setCell ⟨S, 1, none⟩ (.int .i64 0)).setCell ⟨S, 2, none⟩ (.int .i64 0)) := Below.setCell (p := ⟨S, 2, none⟩) (Below.setCell (p := ⟨S, 1, none⟩) (Below.refl _ _) (Nat.le_refl _) _) (Nat.le_refl _) _
  have HK := Aside0.mk hk
  have HB := Aside0.mk hb
  clear h hk hb
  go_enter Try.func71, Try.ntmps71
  go_wp2_with (first | (go_at_call 62; refine HR.out.mono ?_; rintro e w1 ⟨rfl, e1, e2⟩; have E1 := Aside0.mk e1; have E2 := Aside0.mk e2; clear e1 e2))
  go_end0
  exact ⟨rfl, HK.out.then_ E1.out (fun k hk => .inl hk), HB.out.trans E2.out⟩

/-- What is left when the writer has ended. -/
def Ended (w w' : World) (S B D : Nat) (l : List Int) (pos G : Nat) : Prop := IsBuf w' B D l pos G ∧ Kept w w' (fun k => k = S ∨ k = B) ∧ Below (min S B) w w'
theorem ended_tail {w W1 w4 : World} {S B D : Nat} {l : List Int} {pos G : Nat} (hne : S ≠ B ∧ S ≠ D ∧ B ≠ D) (hs : W1.heap[S]? = some (sinkO B pos)) (hb : IsBuf W1 B D l pos G)
    (hk : Kept w W1 (fun k => k = S ∨ k = B)) (hbe : Below (min S B) w W1)
    (e1 : Kept ((W1.setCell ⟨S, 0, none⟩ (.pointer none)).alloc (.cells #[.pointer (some ⟨B, 0, none⟩)] 145)) w4 (fun k => k = S)) (e2 : Below S ((W1.setCell ⟨S, 0, none⟩ (.pointer none)).alloc (.cells #[.pointer (some ⟨B, 0, none⟩)] 145)) w4) :
    w4.cell? ⟨W1.heap.size, 0, none⟩ = some (.pointer (some ⟨B, 0, none⟩)) ∧ Ended w w4 S B D l pos G := by
  obtain ⟨n1, n2, n3⟩ := hne
  have hS := blk_lt hs
  have hB := blk_lt hb.1
  have hD := blk_lt hb.2
  have hz : (W1.setCell ⟨S, 0, none⟩ (.pointer none)).heap.size = W1.heap.size := by simp
  have hn := blk_new (W1.setCell ⟨S, 0, none⟩ (.pointer none)) (.cells #[.pointer (some ⟨B, 0, none⟩)] 145)
  rw [hz] at hn
  have hsz : ((W1.setCell ⟨S, 0, none⟩ (.pointer none)).alloc (.cells #[.pointer (some ⟨B, 0, none⟩)] 145)).heap.size = W1.heap.size + 1 := by simp
  have f1 : ((W1.setCell ⟨S, 0, none⟩ (.pointer none)).alloc (.cells #[.pointer (some ⟨B, 0, none⟩)] 145)).heap[B]? = _ := blk_alloc (blk_far hb.1 (p := ⟨S, 0, none⟩) (show B ≠ S by omega) (.pointer none)) _
  have f2 : ((W1.setCell ⟨S, 0, none⟩ (.pointer none)).alloc (.cells #[.pointer (some ⟨B, 0, none⟩)] 145)).heap[D]? = _ := blk_alloc (blk_far hb.2 (p := ⟨S, 0, none⟩) (show D ≠ S by omega) (.pointer none)) _
  have k1 : Kept W1 ((W1.setCell ⟨S, 0, none⟩ (.pointer none)).alloc (.cells #[.pointer (some ⟨B, 0, none⟩)] 145)) (fun k => k = S) := ((Kept.refl W1 (fun k => k = S)).setCell (.inl rfl) _).alloc _
  have b1 : Below S W1 ((W1.setCell ⟨S, 0, none⟩ (.pointer none)).alloc (.cells #[.pointer (some ⟨B, 0, none⟩)] 145)) := (Below.setCell (p := ⟨S, 0, none⟩) (Below.refl _ _) (Nat.le_refl _) _).trans ((below_alloc (Below.refl _ _) _).mono (by show S ≤ _; rw [hz]; omega))
  refine ⟨?_, ⟨(e1.2 B (by omega) (by omega)).trans f1, (e1.2 D (by omega) (by omega)).trans f2⟩, ?_, ?_⟩
  · exact (blk_cell ((e1.2 W1.heap.size (by omega) (by omega)).trans hn) 0).trans rfl
  · exact (hk.then_ k1 (fun k hk => .inl (.inl hk))).then_ e1 (fun k hk => .inl (.inl hk))
  · exact hbe.trans ((b1.trans e2).mono (Nat.min_le_left _ _))
set_option maxHeartbeats 2000000 in
set_option maxRecDepth 100000 in
theorem finish_calls (S B D : Nat) (l : List Int) (pos G : Nat) (w : World) (h : Snk w S B D l pos 0 G) :
    Calls Try.prog 50 #[.pointer (some ⟨S, 0, none⟩)] w fun e w' => e = .returned (.iface 145 (.agg #[.pointer (some ⟨B, 0, none⟩)])) ∧ Ended w w' S B D l pos G := by
  have s0 : w.cell? ⟨S, 0, none⟩ = some (.pointer (some ⟨B, 0, none⟩)) := (blk_cell h.s 0).trans rfl
  have s1 : w.cell? ⟨S, 1, none⟩ = some (.int .i64 (pos : Int)) := (blk_cell h.s 1).trans rfl
  have z0 : w.frozen? ⟨S, 0, none⟩ = false := blk_frozen h.s 0
  have hlo := h.lo; have hhi := h.hi; have hle := h.le
  have HL := Aside0.mk (show ∀ n, Calls Try.prog 69 #[.pointer (some ⟨B, 0, none⟩)] (w.drewN n) fun e w'' => e = .returned (.int .i64 0) ∧ ∃ m, w'' = w.drewN m from fun n => (len_calls_b B _ 0 G (w.drewN n) h.b.1).mono (fun e w' h => ⟨h.1, n, h.2⟩))
  obtain ⟨n1, n2, n3⟩ := bufne h
  have hS := blk_lt h.s
  by_cases c : pos = 0
  · subst c
    have hd : decide ((0 : Int) < ((0 : Nat) : Int)) = false := by decide
    have HR := Aside0.mk (fun W => reset_calls S 0 W)
    have H := Aside0.mk h
    have N := Aside0.mk (And.intro n1 (And.intro n2 n3))
    clear h n1 n2 n3
    go_enter Try.func50, Try.ntmps50
    go_wp2
    go_quiet (first | (go_at_call 69; exact HL.out _))
    have hs : (w.drewN nq).heap[S]? = some (sinkO B 0) := H.out.s
    have hb : IsBuf (w.drewN nq) B D l 0 G := H.out.b
    have hk : Kept w (w.drewN nq) (fun k => k = S ∨ k = B) := Kept.drewN (Kept.refl w _) nq
    have hbe : Below (min S B) w (w.drewN nq) := pw_below_drewN (Below.refl _ _) nq
    have hS1 : S < (w.drewN nq).heap.size := hS
    generalize w.drewN nq = W1 at hs hb hk hbe hS1 ⊢
    clear s0 s1 z0 hS
    have s0 : W1.cell? ⟨S, 0, none⟩ = some (.pointer (some ⟨B, 0, none⟩)) := (blk_cell hs 0).trans rfl
    have z0 : W1.frozen? ⟨S, 0, none⟩ = false := blk_frozen hs 0
    have HS1 := Aside0.mk hs
    have HB1 := Aside0.mk hb
    have HK1 := Aside0.mk hk
    have HE1 := Aside0.mk hbe
    clear hs hb hk hbe
    go_wp2_with (first | (go_at_call 71; refine (HR.out _ (blk_alloc (blk_set HS1.out 0 (.pointer none)) _)).mono ?_; rintro e w4 ⟨rfl, e1, e2⟩; obtain ⟨c4, e4⟩ := ended_tail N.out HS1.out HB1.out HK1.out HE1.out e1 e2; have E4 := Aside0.mk e4; clear e1 e2 e4))
    go_ret
    exact ⟨rfl, E4.out⟩
  · have hd : decide ((0 : Int) < (pos : Int)) = true := by simp; omega
    have HR := Aside0.mk (fun W => reset_calls S pos W)
    have HZ := Aside0.mk (fun W (hW : IsBuf W B D l 0 G) => resizens_calls B D l 0 G pos W hW hle hhi)
    have H := Aside0.mk h
    have N := Aside0.mk (And.intro n1 (And.intro n2 n3))
    clear h n1 n2 n3
    go_enter Try.func50, Try.ntmps50
    go_wp2
    go_quiet (first | (go_at_call 69; exact HL.out _))
    have hs : (w.drewN nq).heap[S]? = some (sinkO B pos) := H.out.s
    have hb : IsBuf (w.drewN nq) B D l 0 G := H.out.b
    have hk : Kept w (w.drewN nq) (fun k => k = S ∨ k = B) := Kept.drewN (Kept.refl w _) nq
    have hbe : Below (min S B) w (w.drewN nq) := pw_below_drewN (Below.refl _ _) nq
    generalize w.drewN nq = W0 at hs hb hk hbe ⊢
    clear s0 s1 z0 hS
    have s0 : W0.cell? ⟨S, 0, none⟩ = some (.pointer (some ⟨B, 0, none⟩)) := (blk_cell hs 0).trans rfl
    have s1 : W0.cell? ⟨S, 1, none⟩ = some (.int .i64 (pos : Int)) := (blk_cell hs 1).trans rfl
    go_wp2
    go_still_tail 8, (by kernel_rfl)
    change wpList _ _ _ _ _ W0.drew
    clear s0 s1
    have hs1 : (W0.drew.setCell ⟨B, 2, none⟩ (.int .i64 (pos : Int))).heap[S]? = some (sinkO B pos) := blk_far (w := W0.drew) hs (p := ⟨B, 2, none⟩) (show S ≠ B from N.out.1) _
    have hb1 : IsBuf (W0.drew.setCell ⟨B, 2, none⟩ (.int .i64 (pos : Int))) B D l pos G := ⟨blk_set (w := W0.drew) hb.1 2 _, blk_far (w := W0.drew) hb.2 (p := ⟨B, 2, none⟩) (show D ≠ B from fun e => N.out.2.2 e.symm) _⟩
    have hk1 : Kept w (W0.drew.setCell ⟨B, 2, none⟩ (.int .i64 (pos : Int))) (fun k => k = S ∨ k = B) := (Kept.drew hk).setCell (.inl (.inr rfl)) _
    have hbe1 : Below (min S B) w (W0.drew.setCell ⟨B, 2, none⟩ (.int .i64 (pos : Int))) := Below.setCell (p := ⟨B, 2, none⟩) (below_drew hbe) (Nat.min_le_right _ _) _
    have HZ0 := Aside0.mk (HZ.out W0.drew hb)
    clear hs hb hk hbe
    generalize hW1 : W0.drew.setCell ⟨B, 2, none⟩ (.int .i64 (pos : Int)) = W1 at hs1 hb1 hk1 hbe1 HZ0
    clear hW1
    have hS1 := blk_lt hs1
    have s0 : W1.cell? ⟨S, 0, none⟩ = some (.pointer (some ⟨B, 0, none⟩)) := (blk_cell hs1 0).trans rfl
    have z0 : W1.frozen? ⟨S, 0, none⟩ = false := blk_frozen hs1 0
    have HS1 := Aside0.mk hs1
    have HB1 := Aside0.mk hb1
    have HK1 := Aside0.mk hk1
    have HE1 := Aside0.mk hbe1
    clear hs1 hb1 hk1 hbe1
    go_wp2_with (first | (go_at_call 70; refine HZ0.out.mono ?_; rintro e w1 ⟨rfl, hw1⟩; subst w1) | (go_at_call 71; refine (HR.out _ (blk_alloc (blk_set HS1.out 0 (.pointer none)) _)).mono ?_; rintro e w4 ⟨rfl, e1, e2⟩; obtain ⟨c4, e4⟩ := ended_tail N.out HS1.out HB1.out HK1.out HE1.out e1 e2; have E4 := Aside0.mk e4; clear e1 e2 e4))
    go_ret
    exact ⟨rfl, E4.out⟩

set_option maxHeartbeats 2000000 in
set_option maxRecDepth 100000 in
theorem flush_calls (E S B D : Nat) (l : List Int) (pos G : Nat) (w : World) (hE : EncAt w E S) (h : Snk w S B D l pos 0 G) :
    Calls Try.prog 26 #[.pointer (some ⟨E, 0, none⟩)] w fun e w' => e = .returned (.tuple #[.iface 145 (.agg #[.pointer (some ⟨B, 0, none⟩)]), .nilIface]) ∧ Ended w w' S B D l pos G := by
  have HF := Aside0.mk (finish_calls S B D l pos G w h)
  clear h
  unfold EncAt at hE
  go_enter Try.func26, Try.ntmps26
  go_wp2_with (first | (go_at_call 50; refine HF.out.mono ?_; rintro e w1 ⟨rfl, hw⟩; have HE := Aside0.mk hw; clear hw))
  go_ret2
  exact ⟨rfl, HE.out⟩

theorem c_of_row {w : World} {D : Nat} {l : List Int} (h : Row w D l) (n : Nat) (hn : n ≤ l.length) (hm : l.length ≤ 16777216) : Kd.C (Kd.int .u8) w (some ⟨D, 0, none⟩) (l.take n).length (l.take n) := by
  have hl : (l.take n).length = n := by simp; omega
  refine Kd.C_of_reads (enc := Value.int .u8) (d := (0 : Int)) (h1 := fun _ => rfl) ⟨rfl, by omega, fun _ => ⟨_, rfl, fun j hj => ?_⟩⟩
  have e : (⟨D, 0, none⟩ : Addr).add j = ⟨D, j, none⟩ := by simp [Addr.add]; omega
  rw [e, h.cell j (by omega), List.getD_eq_getElem?_getD, List.getD_eq_getElem?_getD, List.getElem?_take, if_pos (by omega)]

set_option maxRecDepth 100000 in
theorem sliceTo_b (D i n : Nat) (hi : i ≤ n) (hn : n ≤ 16777216) (W : World) : (Instr.sliceAt 23 (.slice (some ⟨D, 0, none⟩) n n) none (some (.int .i64 (i : Int))) none).run Try.prog W = .ok (.slice (some ⟨D, 0, none⟩) i n) W := by
  rw [run_sliceAt_slice W 23 _ _ _ _ Try.underlying23, run_slice_h W 23 (some ⟨D, 0, none⟩) n n Try.underlying23 .i64 (i : Int) (by omega) (by omega)]
  have hsz : (sizeOf (Try.prog.elem 23)).run Try.prog W = .ok 1 W := by kernel_rfl
  rw [hsz]
  simp only [Result.andThen, sliced, Int.toNat_natCast]
  by_cases c : n = 0
  · rw [if_pos c]; simp
  · rw [if_neg c]; simp [Addr.add]
set_option maxHeartbeats 2000000 in
set_option maxRecDepth 100000 in
theorem bytes_calls (B D : Nat) (l : List Int) (pos G : Nat) (w : World) (h : IsBuf w B D l pos G) (hp : pos ≤ l.length) (hl : l.length ≤ 16777216) :
    Calls Try.prog 130 #[.pointer (some ⟨B, 0, none⟩)] w fun e w' => e = .returned (.slice (some ⟨D, 0, none⟩) pos l.length) ∧ Drawn0 w w' := by
  have r1 : w.cell? ⟨B, 1, none⟩ = some (.slice (some ⟨D, 0, none⟩) l.length l.length) := (blk_cell h.1 1).trans rfl
  have r2 : w.cell? ⟨B, 2, none⟩ = some (.int .i64 (pos : Int)) := (blk_cell h.1 2).trans rfl
  have hsl := sliceTo_b D pos l.length hp hl
  clear h
  go_enter Try.func130, Try.ntmps130
  go_wp2
  go_quiet (fail)
  go_wp2
  go_ret
  exact ⟨rfl, ⟨_, rfl⟩⟩
set_option maxHeartbeats 2000000 in
set_option maxRecDepth 100000 in
theorem pbytes_calls (B D : Nat) (l : List Int) (pos G : Nat) (w : World) (h : IsBuf w B D l pos G) (hp : pos ≤ l.length) (hl : l.length ≤ 16777216) :
    Calls Try.prog 144 #[.agg #[.pointer (some ⟨B, 0, none⟩)]] w fun e w' => e = .returned (.slice (some ⟨D, 0, none⟩) pos l.length) ∧ IsBuf w' B D l pos G ∧ Below w.heap.size w w' := by
  have HB := Aside0.mk (bytes_calls B D l pos G (w.alloc (.cells #[.pointer (some ⟨B, 0, none⟩)] 145)) ⟨blk_alloc h.1 _, blk_alloc h.2 _⟩ hp hl)
  have H := Aside0.mk h
  clear h
  go_enter Try.func144, Try.ntmps144
  go_wp2_with (first | (go_at_call 130; refine HB.out.mono ?_; rintro e w1 ⟨rfl, ⟨n, hw⟩⟩; subst w1))
  go_ret
  exact ⟨rfl, ⟨blk_alloc H.out.1 _, blk_alloc H.out.2 _⟩, pw_below_drewN (below_alloc (Below.refl _ _) _) _⟩
set_option maxHeartbeats 2000000 in
set_option maxRecDepth 100000 in
theorem flushed_calls (B D : Nat) (l : List Int) (pos G : Nat) (w : World) (h : IsBuf w B D l pos G) (hp : pos ≤ l.length) (hl : l.length ≤ 16777216) :
    Calls Try.prog 25 #[.iface 145 (.agg #[.pointer (some ⟨B, 0, none⟩)]), .nilIface] w fun e w' => ∃ v0_ : Value, e = .returned (.tuple #[v0_, .bool true]) ∧ Kd.R (Kd.int .u8) 5 w' w.heap.size (fun _ => True) v0_ (l.take pos) ∧ Below w.heap.size w w' := by
  have HP := Aside0.mk (pbytes_calls B D l pos G w h hp hl)
  have hlen : (l.take pos).length = pos := by simp; omega
  have HC := Aside0.mk (fun W (hW : IsBuf W B D l pos G) => show Calls Try.prog 49 #[.slice (some ⟨D, 0, none⟩) pos l.length] W fun e w' => ∃ v0_ : Value, e = .returned (v0_) ∧ Kd.R (Kd.int .u8) 5 w' W.heap.size (fun _ => True) v0_ (l.take pos) ∧ Below W.heap.size W w' from by
    have := impl_copied.calls (some ⟨D, 0, none⟩) l.length (l.take pos) (l.take pos) W (c_of_row hW.2 pos hp hl) (by omega) (by unfold impl_copied.f; simp; omega)
    rwa [hlen] at this)
  clear h
  go_enter Try.func25, Try.ntmps25
  go_wp2_with (first | (go_at_call 144; refine HP.out.mono ?_; rintro e w1 ⟨rfl, e1, e2⟩; have E1 := Aside0.mk e1; have E2 := Aside0.mk e2; clear e1 e2) | (go_at_call 49; refine (HC.out _ E1.out).mono ?_; rintro e w2 ⟨v0, rfl, f1, f2⟩; have F1 := Aside0.mk f1; have F2 := Aside0.mk f2; clear f1 f2))
  go_ret2
  exact ⟨v0, rfl, Kd.R_lower F1.out E2.out.size, E2.out.trans (F2.out.mono E2.out.size)⟩
end Go.Proofs.Ytcfnniminikmfaa.Q
