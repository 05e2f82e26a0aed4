/- The reader of bytes, a word of four bytes at a time. -/
import Derived.Test.YtidcmpjcghbofaaDoorQ0
import Derived.Recover
import Derived.Handy
import Derived.StillTailTactics
import Derived.Laws.CopyOwn
import Derived.Deep.RegionLaw
import Derived.Test.YtidcmpjcghbofaaDoorNum
namespace Go.Proofs.YtidcmpjcghbofaaDoor.Q
open Go.RowKit Go.Proofs.YtidcmpjcghbofaaDoorW.PrintWords Go.Proofs.YtidcmpjcghbofaaDoorW.PrintLast Go.Proofs.YtidcmpjcghbofaaDoorW.PrintMore
set_option linter.unusedVariables false
set_option linter.unusedSimpArgs false
theorem or4 (b0 b1 b2 b3 : Int) (l0 : 0 ≤ b0) (u0 : b0 ≤ 255) (l1 : 0 ≤ b1) (u1 : b1 ≤ 255) (l2 : 0 ≤ b2) (u2 : b2 ≤ 255) (l3 : 0 ≤ b3) (u3 : b3 ≤ 255) :
    bits .or .u32 (bits .or .u32 (bits .or .u32 b0 (b1 * 256)) (b2 * 65536)) (b3 * 16777216) = b0 + 256 * b1 + 65536 * b2 + 16777216 * b3 := by
  obtain ⟨n0, rfl⟩ := Int.eq_ofNat_of_zero_le l0
  obtain ⟨n1, rfl⟩ := Int.eq_ofNat_of_zero_le l1
  obtain ⟨n2, rfl⟩ := Int.eq_ofNat_of_zero_le l2
  obtain ⟨n3, rfl⟩ := Int.eq_ofNat_of_zero_le l3
  have h1 := or_low .u32 32 (by decide) wraps_u32 8 n0 n1 (by omega) (by omega)
  have h2 := or_low .u32 32 (by decide) wraps_u32 16 (n0 + 2 ^ 8 * n1) n2 (by omega) (by omega)
  have h3 := or_low .u32 32 (by decide) wraps_u32 24 (n0 + 2 ^ 8 * n1 + 2 ^ 16 * n2) n3 (by omega) (by omega)
  rw [show ((n1 : Int) * 256) = ((2 ^ 8 * n1 : Nat) : Int) by omega, h1, show ((n2 : Int) * 65536) = ((2 ^ 16 * n2 : Nat) : Int) by omega, h2, show ((n3 : Int) * 16777216) = ((2 ^ 24 * n3 : Nat) : Int) by omega, h3]
  omega
theorem ret_int {k : IntKind} {a b : Int} (h : a = b) : Ending.returned (.int k a) = .returned (.int k b) := by rw [h]
set_option maxHeartbeats 1000000 in
theorem le_calls (g : Nat) (b0 b1 b2 b3 : Int) (w : World) (hb : w.heap[g]? = some (.cells #[.int .u8 b0, .int .u8 b1, .int .u8 b2, .int .u8 b3] 47 (0, 0)))
    (l0 : 0 ≤ b0) (u0 : b0 ≤ 255) (l1 : 0 ≤ b1) (u1 : b1 ≤ 255) (l2 : 0 ≤ b2) (u2 : b2 ≤ 255) (l3 : 0 ≤ b3) (u3 : b3 ≤ 255) :
    Calls Tryd.prog 42 #[.agg #[], .slice (some ⟨g, 0, none⟩) 4 4] w fun e w' => e = .returned (.int .u32 (b0 + 256 * b1 + 65536 * b2 + 16777216 * b3)) ∧ Below w.heap.size w w' := by
  have hlt := blk_lt hb
  have c0 : w.cell? ⟨g, 0, none⟩ = some (.int .u8 b0) := blk_cell hb 0
  have c1 : w.cell? ⟨g, 1, none⟩ = some (.int .u8 b1) := blk_cell hb 1
  have c2 : w.cell? ⟨g, 2, none⟩ = some (.int .u8 b2) := blk_cell hb 2
  have c3 : w.cell? ⟨g, 3, none⟩ = some (.int .u8 b3) := blk_cell hb 3
  have HE := Aside0.mk (or4 b0 b1 b2 b3 l0 u0 l1 u1 l2 u2 l3 u3)
  clear hb
  go_enter Tryd.func42, Tryd.ntmps42
  go_wp2
  go_quiet (fail)
  go_wp2
  go_ret
  exact ⟨ret_int HE.out, pw_below_drewN (below_alloc (Below.refl _ _) _) _⟩
set_option maxHeartbeats 2000000 in
theorem read_calls (R g : Nat) (ad : Addr) (n c i : Nat) (q : Int) (b0 b1 b2 b3 : Int) (x : Nat → Int) (w : World)
    (hR : w.heap[R]? = some (.cells #[.slice (some ad) n c, .int .i64 (i : Int), .int .i64 q] 43 (0, 0)))
    (hg : w.heap[g]? = some (.cells #[.int .u8 b0, .int .u8 b1, .int .u8 b2, .int .u8 b3] 47 (0, 0)))
    (hlt : R < g) (hn : i + 4 ≤ n) (hc : n ≤ c) (hm : n ≤ 1000)
    (hs : ∀ W, Kept w W (fun k => k = R ∨ g ≤ k) → ∀ j, j < 4 → W.cell? (ad.add (i + j)) = some (.int .u8 (x j))) :
    Calls Tryd.prog 60 #[.pointer (some ⟨R, 0, none⟩), .slice (some ⟨g, 0, none⟩) 4 4] w fun e w' => e = .returned (.tuple #[.int .i64 4, .nilIface]) ∧
      w'.heap[R]? = some (.cells #[.slice (some ad) n c, .int .i64 ((i + 4 : Nat) : Int), .int .i64 (-1)] 43 (0, 0)) ∧
      w'.heap[g]? = some (.cells #[.int .u8 (x 0), .int .u8 (x 1), .int .u8 (x 2), .int .u8 (x 3)] 47 (0, 0)) ∧
      Kept w w' (fun k => k = R ∨ g ≤ k) ∧ Below R w w' := by
  have r0 : w.cell? ⟨R, 0, none⟩ = some (.slice (some ad) n c) := (blk_cell hR 0).trans rfl
  have r1 : w.cell? ⟨R, 1, none⟩ = some (.int .i64 (i : Int)) := (blk_cell hR 1).trans rfl
  have r2 : w.cell? ⟨R, 2, none⟩ = some (.int .i64 q) := (blk_cell hR 2).trans rfl
  have z2 : w.frozen? ⟨R, 2, none⟩ = false := blk_frozen hR 2
  have hge : decide ((i : Int) ≥ (n : Int)) = false := by simp; omega
  have HR := Aside0.mk hR
  have HG := Aside0.mk hg
  have HS := Aside0.mk hs
  clear hR hg hs
  go_enter Tryd.func60, Tryd.ntmps60
  go_wp2
  go_quiet (fail)
  go_wp2
  have hR1 : ((w.drewN nq).setCell ⟨R, 2, none⟩ (.int .i64 (-1))).heap[R]? = some (.cells #[.slice (some ad) n c, .int .i64 (i : Int), .int .i64 (-1)] 43 (0, 0)) := blk_set (blk_drewN HR.out nq) 2 _
  have hg1 : ((w.drewN nq).setCell ⟨R, 2, none⟩ (.int .i64 (-1))).heap[g]? = some (.cells #[.int .u8 b0, .int .u8 b1, .int .u8 b2, .int .u8 b3] 47 (0, 0)) := blk_far (blk_drewN HG.out nq) (p := ⟨R, 2, none⟩) (by show g ≠ R; omega) _
  have k1 : Kept w ((w.drewN nq).setCell ⟨R, 2, none⟩ (.int .i64 (-1))) (fun k => k = R ∨ g ≤ k) := (Kept.drewN (Kept.refl w _) nq).setCell (.inl (.inl rfl)) _
  have be1 : Below R w ((w.drewN nq).setCell ⟨R, 2, none⟩ (.int .i64 (-1))) := Below.setCell (p := ⟨R, 2, none⟩) (pw_below_drewN (Below.refl _ _) nq) (Nat.le_refl _) _
  generalize (w.drewN nq).setCell ⟨R, 2, none⟩ (.int .i64 (-1)) = w1 at hR1 hg1 k1 be1 ⊢
  have s0 : w1.cell? ⟨R, 0, none⟩ = some (.slice (some ad) n c) := (blk_cell hR1 0).trans rfl
  have s1 : w1.cell? ⟨R, 1, none⟩ = some (.int .i64 (i : Int)) := (blk_cell hR1 1).trans rfl
  have HR1 := Aside0.mk hR1
  have HG1 := Aside0.mk hg1
  have K1 := Aside0.mk k1
  have BE1 := Aside0.mk be1
  clear r0 r1 r2 z2 hge hR1 hg1 k1 be1
  have hsl : ∀ W : World, (Instr.sliceAt 22 (.slice (some ad) n c) (some (.int .i64 (i : Int))) none none).run Tryd.prog W = .ok (.slice (some (ad.add i)) (n - i) (c - i)) W := by
    intro W
    rw [run_sliceAt_slice W 22 _ _ _ _ Tryd.underlying22, run_slice_l W 22 (some ad) n c Tryd.underlying22 .i64 (i : Int) (by omega) (by omega)]
    have hsz : (sizeOf (Tryd.prog.elem 22)).run Tryd.prog W = .ok 1 W := by kernel_rfl
    rw [hsz]
    simp only [Result.andThen, sliced, Int.toNat_natCast]
    rw [if_neg (by omega)]
    simp
  go_still_tail 10, (by kernel_rfl)
  change wpList _ _ _ _ _ w1.drew
  have hR2 := blk_drew HR1.out
  have hg2 := blk_drew HG1.out
  have k2 := Kept.drew K1.out
  have be2 := below_drew BE1.out
  generalize w1.drew = w2 at hR2 hg2 k2 be2 ⊢
  have HR2 := Aside0.mk hR2
  have HG2 := Aside0.mk hg2
  have K2 := Aside0.mk k2
  have BE2 := Aside0.mk be2
  have HS2 := Aside0.mk (show ∀ j v, [Value.int .u8 (x 0), .int .u8 (x 1), .int .u8 (x 2), .int .u8 (x 3)][j]? = some v → w2.cell? ((ad.add i).add j) = some v by
    intro j v hj
    rw [add_add]
    have h4 : j < 4 := by
      have := (List.getElem?_eq_some_iff.1 hj).1
      simpa using this
    rw [HS.out w2 k2 j h4]
    rcases (by omega : j = 0 ∨ j = 1 ∨ j = 2 ∨ j = 3) with rfl | rfl | rfl | rfl <;> simpa using hj)
  have hnn : 4 = Nat.min (n - i) 4 := by show 4 = min (n - i) 4; omega
  have HNN := Aside0.mk hnn
  clear hR2 hg2 k2 be2 HR1 HG1 K1 BE1 HS HR HG hsl hnn
  refine wpList_copy_splice rfl (.tmp 20) (.tmp 29) 22 22 rfl 5 Tryd.underlying22 (by kernel_rfl) (some ⟨g, 0, none⟩) (some (ad.add i)) 4 4 (n - i) (c - i) rfl rfl g 0 [.int .u8 b0, .int .u8 b1, .int .u8 b2, .int .u8 b3] 47 HG2.out [.int .u8 (x 0), .int .u8 (x 1), .int .u8 (x 2), .int .u8 (x 3)] HNN.out (fun _ => ⟨rfl, ad.add i, rfl, HS2.out⟩) (by simp) (by simp [Value.oneCell']) g w2 (Below.refl _ _) (Nat.le_refl _) ?_
  intro w3 hg3 hb3
  have HR3 := Aside0.mk ((hb3.block R hlt).trans HR2.out); have HB3 := Aside0.mk hb3; clear hb3; have c31 : w3.cell? ⟨R, 1, none⟩ = some (.int .i64 (i : Int)) := (blk_cell HR3.out 1).trans rfl; have z31 : w3.frozen? ⟨R, 1, none⟩ = false := blk_frozen HR3.out 1
  go_wp2
  go_ret2
  refine ⟨rfl, ?_, ?_, ?_, ?_⟩
  · exact blk_set HR3.out 1 _
  · exact blk_far (show w3.heap[g]? = some (.cells #[.int .u8 (x 0), .int .u8 (x 1), .int .u8 (x 2), .int .u8 (x 3)] 47 (0, 0)) from hg3) (p := ⟨R, 1, none⟩) (by show g ≠ R; omega) _
  · have k3 : Kept w2 w3 (fun k => k = R ∨ g ≤ k) := ⟨HB3.out.size, fun k hk hn => HB3.out.block k (by omega)⟩
    exact (K2.out.then_ k3 (fun k hk => .inl hk)).setCell (.inl (.inl rfl)) _
  · exact Below.setCell (p := ⟨R, 1, none⟩) (BE2.out.trans (HB3.out.mono (by omega))) (Nat.le_refl _) _
theorem nil_ahead (a : Addr) (w : World) : (nilAhead 177 34 (.pointer (some a)) "Read").run Tryd.prog w = .ok (some false) w := by kernel_rfl
theorem method_read (a : Addr) (w : World) : (method 177 34 (.pointer (some a)) "Read").run Tryd.prog w = .ok (60, .pointer (some a)) w := by kernel_rfl
set_option maxHeartbeats 2000000 in
theorem atleast_calls (R g : Nat) (ad : Addr) (n c i : Nat) (q : Int) (b0 b1 b2 b3 : Int) (x : Nat → Int) (w : World)
    (hR : w.heap[R]? = some (.cells #[.slice (some ad) n c, .int .i64 (i : Int), .int .i64 q] 43 (0, 0)))
    (hg : w.heap[g]? = some (.cells #[.int .u8 b0, .int .u8 b1, .int .u8 b2, .int .u8 b3] 47 (0, 0)))
    (hlt : R < g) (hn : i + 4 ≤ n) (hc : n ≤ c) (hm : n ≤ 1000)
    (hs : ∀ W, Kept w W (fun k => k = R ∨ g ≤ k) → ∀ j, j < 4 → W.cell? (ad.add (i + j)) = some (.int .u8 (x j))) :
    Calls Tryd.prog 43 #[.iface 34 (.pointer (some ⟨R, 0, none⟩)), .slice (some ⟨g, 0, none⟩) 4 4, .int .i64 4] w fun e w' => e = .returned (.tuple #[.int .i64 4, .nilIface]) ∧
      w'.heap[R]? = some (.cells #[.slice (some ad) n c, .int .i64 ((i + 4 : Nat) : Int), .int .i64 (-1)] 43 (0, 0)) ∧
      w'.heap[g]? = some (.cells #[.int .u8 (x 0), .int .u8 (x 1), .int .u8 (x 2), .int .u8 (x 3)] 47 (0, 0)) ∧
      Kept w w' (fun k => k = R ∨ g ≤ k) ∧ Below R w w' := by
  have HC := Aside0.mk (fun w => read_calls R g ad n c i q b0 b1 b2 b3 x w)
  have HR := Aside0.mk hR
  have HG := Aside0.mk hg
  have HS := Aside0.mk hs
  clear hR hg hs
  have N1 := nil_ahead
  have N2 := method_read
  go_enter Tryd.func43, Tryd.ntmps43
  go_wp2
  refine wp_loop_rounds 2 ?_
  rw [rounds_succ]
  go_wp2
  go_region_with (go_at_call 60; refine (HC.out w.drew HR.out HG.out hlt hn hc hm HS.out).mono ?_; rintro e w' ⟨rfl, e1, e2, e3, e4⟩)
  have E1 := Aside0.mk e1
  have E2 := Aside0.mk e2
  have E3 := Aside0.mk e3
  have E4 := Aside0.mk ((below_drew (Below.refl R w)).trans e4)
  clear e1 e2 e3 e4
  go_wp2
  rw [rounds_succ]
  go_wp2
  go_ret2
  exact ⟨rfl, E1.out, E2.out, E3.out, E4.out⟩

set_option maxHeartbeats 2000000 in
theorem full_calls (R g : Nat) (ad : Addr) (n c i : Nat) (q : Int) (b0 b1 b2 b3 : Int) (x : Nat → Int) (w : World)
    (hR : w.heap[R]? = some (.cells #[.slice (some ad) n c, .int .i64 (i : Int), .int .i64 q] 43 (0, 0)))
    (hg : w.heap[g]? = some (.cells #[.int .u8 b0, .int .u8 b1, .int .u8 b2, .int .u8 b3] 47 (0, 0)))
    (hlt : R < g) (hn : i + 4 ≤ n) (hc : n ≤ c) (hm : n ≤ 1000)
    (hs : ∀ W, Kept w W (fun k => k = R ∨ g ≤ k) → ∀ j, j < 4 → W.cell? (ad.add (i + j)) = some (.int .u8 (x j))) :
    Calls Tryd.prog 41 #[.iface 34 (.pointer (some ⟨R, 0, none⟩)), .slice (some ⟨g, 0, none⟩) 4 4] w fun e w' => e = .returned (.tuple #[.int .i64 4, .nilIface]) ∧
      w'.heap[R]? = some (.cells #[.slice (some ad) n c, .int .i64 ((i + 4 : Nat) : Int), .int .i64 (-1)] 43 (0, 0)) ∧
      w'.heap[g]? = some (.cells #[.int .u8 (x 0), .int .u8 (x 1), .int .u8 (x 2), .int .u8 (x 3)] 47 (0, 0)) ∧
      Kept w w' (fun k => k = R ∨ g ≤ k) ∧ Below R w w' := by
  have HC := Aside0.mk (atleast_calls R g ad n c i q b0 b1 b2 b3 x w hR hg hlt hn hc hm hs)
  clear hR hg hs
  go_enter Tryd.func41, Tryd.ntmps41
  go_wp2_with (go_at_call 43; refine HC.out.mono ?_; rintro e w' ⟨rfl, e1, e2, e3, e4⟩; have E := Aside0.mk (And.intro e1 (And.intro e2 (And.intro e3 e4))); clear e1 e2 e3 e4)
  go_ret2
  exact ⟨rfl, E.out⟩

theorem cell_same {w w1 : World} {a : Addr} (h : w1.heap[a.block]? = w.heap[a.block]?) : w1.cell? a = w.cell? a := by unfold World.cell?; rw [h]
theorem frozen_same {w w1 : World} {a : Addr} (h : w1.heap[a.block]? = w.heap[a.block]?) : w1.frozen? a = w.frozen? a := by unfold World.frozen?; rw [h]

/-- A word: four bytes, the lowest first. -/
theorem little_calls (R : Nat) (p : Addr) (ad : Addr) (n c i : Nat) (q y : Int) (x : Nat → Int) (w : World)
    (hR : w.heap[R]? = some (.cells #[.slice (some ad) n c, .int .i64 (i : Int), .int .i64 q] 43 (0, 0)))
    (hp : w.cell? p = some (.int .u32 y)) (zp : w.frozen? p = false) (hpR : R ≠ p.block)
    (hn : i + 4 ≤ n) (hc : n ≤ c) (hm : n ≤ 1000) (hx : ∀ j, 0 ≤ x j ∧ x j ≤ 255)
    (hs : ∀ W, Kept w W (fun k => k = R) → ∀ j, j < 4 → W.cell? (ad.add (i + j)) = some (.int .u8 (x j))) :
    Calls Tryd.prog 40 #[.iface 34 (.pointer (some ⟨R, 0, none⟩)), .pointer (some p)] w fun e w' => e = .returned (.tuple #[]) ∧
      ∃ w1, w' = w1.setCell p (.int .u32 (x 0 + 256 * x 1 + 65536 * x 2 + 16777216 * x 3)) ∧
      w1.heap[R]? = some (.cells #[.slice (some ad) n c, .int .i64 ((i + 4 : Nat) : Int), .int .i64 (-1)] 43 (0, 0)) ∧
      Kept w w1 (fun k => k = R) ∧ Below R w w1 := by
  have hlt := blk_lt hR
  have HC := Aside0.mk (full_calls R w.heap.size ad n c i q 0 0 0 0 x (w.alloc (.cells #[.int .u8 0, .int .u8 0, .int .u8 0, .int .u8 0] 47)) (blk_alloc hR _) (blk_new _ _) hlt hn hc hm (fun W hk => hs W (((Kept.refl w (fun k => k = R)).alloc _).then_ hk (fun k hk => hk.imp id (fun h => h)))))
  have HR := Aside0.mk hR
  have HP := Aside0.mk hp
  have ZP := Aside0.mk zp
  have HX := Aside0.mk hx
  clear hR hs hp zp hx
  go_enter Tryd.func40, Tryd.ntmps40
  go_wp2_with (go_at_call 41; refine HC.out.mono ?_; rintro e w' ⟨rfl, e1, e2, e3, e4⟩; have E1 := Aside0.mk e1; have E2 := Aside0.mk e2; have E3 := Aside0.mk e3; have E4 := Aside0.mk e4; clear e1 e2 e3 e4)
  have hpl := World.block_lt_of_cell? w p HP.out
  have hpb : w'.heap[p.block]? = w.heap[p.block]? := (E3.out.2 p.block (by simp; omega) (by omega)).trans (Below.heap_alloc w _ p.block hpl)
  have p1 : w'.cell? p = some (.int .u32 y) := (cell_same hpb).trans HP.out
  have p2 : w'.frozen? p = false := (frozen_same hpb).trans ZP.out
  have hsz : w.heap.size < w'.heap.size := by have := E3.out.1; simp at this; omega
  have HPL := Aside0.mk (Nat.lt_trans hpl hsz)
  have HL := Aside0.mk (le_calls w.heap.size (x 0) (x 1) (x 2) (x 3) w'.drew E2.out (HX.out 0).1 (HX.out 0).2 (HX.out 1).1 (HX.out 1).2 (HX.out 2).1 (HX.out 2).2 (HX.out 3).1 (HX.out 3).2)
  clear hpl hpb hsz
  go_region_with (go_at_call 42; refine HL.out.mono ?_; rintro e w2 ⟨rfl, hb⟩; have c2 : w2.cell? p = some (.int .u32 y) := (hb.cell (p := p) HPL.out).trans p1; have f2 : w2.frozen? p = false := (hb.frozen (p := p) HPL.out).trans p2; have HB := Aside0.mk hb; clear hb)
  refine bodyPost_end (results_none rfl _ _ _) rfl ?_
  refine ⟨rfl, w2, rfl, ?_, ?_, ?_⟩
  · exact (HB.out.block R (Nat.lt_of_lt_of_le hlt (Nat.le_trans (by simp) E3.out.1))).trans E1.out
  · have k1 : Kept w w' (fun k => k = R) := ⟨Nat.le_trans (by simp) E3.out.1, fun k hk hn => (E3.out.2 k (by simp; omega) (by omega)).trans (Below.heap_alloc w _ k hk)⟩
    exact k1.below (w := w) ((below_drew (Below.refl w'.heap.size w')).trans HB.out)
  · exact ((below_alloc (Below.refl _ w) _).mono (Nat.le_of_lt hlt)).trans (E4.out.trans (((below_drew (Below.refl w'.heap.size w')).trans HB.out).mono (Nat.le_of_lt (Nat.lt_of_lt_of_le hlt (Nat.le_trans (by simp) E3.out.1)))))
end Go.Proofs.YtidcmpjcghbofaaDoor.Q
