/- The walk of the unpacking of 32 bits: each word is read into its place. -/
import Derived.Test.YtidcmpjcghbofaaDoorUb
import Derived.Test.YtidcmpjcghbofaaDoorUf
import Derived.Recover
import Derived.Handy
import Derived.StillTailTactics
import Derived.Laws.CopyOwn
import Derived.Deep.RegionLaw
namespace Go.Proofs.YtidcmpjcghbofaaDoor.Q
open Go.RowKit Go.Proofs.YtidcmpjcghbofaaDoorW.PrintWords Go.Proofs.YtidcmpjcghbofaaDoorW.PrintLast Go.Proofs.YtidcmpjcghbofaaDoorW.PrintMore
set_option linter.unusedVariables false
set_option linter.unusedSimpArgs false

structure St2 (w : World) (R O : Nat) (ad : Addr) (c : Nat) (l : List Int) (k : Nat) (out : List Int) (W : World) : Prop where
  rdr : ∃ q, W.heap[R]? = some (.cells #[.slice (some ad) l.length c, .int .i64 ((4 * k : Nat) : Int), .int .i64 q] 43 (0, 0))
  row : W.heap[O]? = some (.cells (out.map (Value.int .u32)).toArray 30 (0, 0))
  kept : Kept w W (fun k => k = R ∨ k = O)
  below : Below (min R O) w W
  lt : R < w.heap.size ∧ O < w.heap.size ∧ R ≠ O
  len : out.length = 32

section
variable {w W : World} {R O : Nat} {ad : Addr} {c : Nat} {l : List Int} {k : Nat} {y : Int} {out : List Int}
theorem St2.start {q : Int} (hR : w.heap[R]? = some (.cells #[.slice (some ad) l.length c, .int .i64 0, .int .i64 q] 43 (0, 0)))
    (hO : w.heap[O]? = some (.cells (out.map (Value.int .u32)).toArray 30 (0, 0))) (hne : R ≠ O) (hlen : out.length = 32) : St2 w R O ad c l 0 out w :=
  ⟨⟨q, hR⟩, hO, Kept.refl w _, Below.refl _ w, ⟨blk_lt hR, blk_lt hO, hne⟩, hlen⟩
theorem St2.little (H : Src w R O ad c l) (h : St2 w R O ad c l k out W) (hk : 4 * k + 4 ≤ l.length) (i : Nat) (hi : i < 32) :
    Calls Tryd.prog 40 #[.iface 34 (.pointer (some ⟨R, 0, none⟩)), .pointer (some ⟨O, i, none⟩)] W fun e w' => e = .returned (.tuple #[]) ∧ St2 w R O ad c l (k + 1) (out.set i ((word l k : Nat) : Int)) w' := by
  obtain ⟨q, hq⟩ := h.rdr
  obtain ⟨l1, l2, l3⟩ := h.lt
  have hc : W.cell? ⟨O, i, none⟩ = some (.int .u32 (out.getD i 0)) := by
    rw [blk_cell h.row i, List.getD_eq_getElem?_getD, List.getElem?_eq_getElem (by rw [h.len]; exact hi)]
    simp [h.len, hi]
  refine (little_calls R ⟨O, i, none⟩ ad l.length c (4 * k) q _ (fun j => rd l ((4 * k + j : Nat) : Int)) W hq hc (blk_frozen h.row i) (by show R ≠ O; exact l3) hk H.cap H.small (fun j => rd_byte H.bytes _)
    (fun W' hk' j hj => H.cells W' (h.kept.then_ hk' (fun k hk => .inl (.inl hk))) (4 * k + j) (by omega))).mono ?_
  rintro e w' ⟨rfl, w1, rfl, e1, e2, e3⟩
  rw [word_is H.bytes k hk]
  have hO := (e2.2 O (blk_lt h.row) (by omega)).trans h.row
  refine ⟨rfl, ⟨-1, blk_far e1 (p := ⟨O, i, none⟩) l3 _⟩, ?_, ?_, ?_, ⟨l1, l2, l3⟩, by rw [List.length_set]; exact h.len⟩
  · have := blk_set hO i (.int .u32 ((word l k : Nat) : Int))
    rw [this, List.map_set]
    simp
  · exact (h.kept.then_ e2 (fun k hk => .inl (.inl hk))).setCell (.inl (.inr rfl)) _
  · exact Below.setCell (p := ⟨O, i, none⟩) (h.below.trans (e3.mono (Nat.min_le_left _ _))) (Nat.min_le_right _ _) _
end
theorem fld_all (l : List Int) (j : Nat) : ((word l j : Nat) : Int) = ((unp l 32 j : Nat) : Int) := by unfold unp word; rw [Nat.mul_comm]
def lit32 (l : List Int) : List Int := [((word l 0 : Nat) : Int), ((word l 1 : Nat) : Int), ((word l 2 : Nat) : Int), ((word l 3 : Nat) : Int), ((word l 4 : Nat) : Int), ((word l 5 : Nat) : Int), ((word l 6 : Nat) : Int), ((word l 7 : Nat) : Int), ((word l 8 : Nat) : Int), ((word l 9 : Nat) : Int), ((word l 10 : Nat) : Int), ((word l 11 : Nat) : Int), ((word l 12 : Nat) : Int), ((word l 13 : Nat) : Int), ((word l 14 : Nat) : Int), ((word l 15 : Nat) : Int), ((word l 16 : Nat) : Int), ((word l 17 : Nat) : Int), ((word l 18 : Nat) : Int), ((word l 19 : Nat) : Int), ((word l 20 : Nat) : Int), ((word l 21 : Nat) : Int), ((word l 22 : Nat) : Int), ((word l 23 : Nat) : Int), ((word l 24 : Nat) : Int), ((word l 25 : Nat) : Int), ((word l 26 : Nat) : Int), ((word l 27 : Nat) : Int), ((word l 28 : Nat) : Int), ((word l 29 : Nat) : Int), ((word l 30 : Nat) : Int), ((word l 31 : Nat) : Int)]
theorem lit32_is (l : List Int) : lit32 l = fields l 32 :=
  cons_eq (fld_all l 0) <|
  cons_eq (fld_all l 1) <|
  cons_eq (fld_all l 2) <|
  cons_eq (fld_all l 3) <|
  cons_eq (fld_all l 4) <|
  cons_eq (fld_all l 5) <|
  cons_eq (fld_all l 6) <|
  cons_eq (fld_all l 7) <|
  cons_eq (fld_all l 8) <|
  cons_eq (fld_all l 9) <|
  cons_eq (fld_all l 10) <|
  cons_eq (fld_all l 11) <|
  cons_eq (fld_all l 12) <|
  cons_eq (fld_all l 13) <|
  cons_eq (fld_all l 14) <|
  cons_eq (fld_all l 15) <|
  cons_eq (fld_all l 16) <|
  cons_eq (fld_all l 17) <|
  cons_eq (fld_all l 18) <|
  cons_eq (fld_all l 19) <|
  cons_eq (fld_all l 20) <|
  cons_eq (fld_all l 21) <|
  cons_eq (fld_all l 22) <|
  cons_eq (fld_all l 23) <|
  cons_eq (fld_all l 24) <|
  cons_eq (fld_all l 25) <|
  cons_eq (fld_all l 26) <|
  cons_eq (fld_all l 27) <|
  cons_eq (fld_all l 28) <|
  cons_eq (fld_all l 29) <|
  cons_eq (fld_all l 30) <|
  cons_eq (fld_all l 31) <| rfl
set_option maxHeartbeats 16000000 in
set_option maxRecDepth 100000 in
theorem unpack32_32.calls (R O : Nat) (ad : Addr) (c : Nat) (q : Int) (l : List Int) (w : World) (hl : l.length = 128) (H : Src w R O ad c l)
    (hR : w.heap[R]? = some (.cells #[.slice (some ad) l.length c, .int .i64 0, .int .i64 q] 43 (0, 0)))
    (hO : w.heap[O]? = some (.cells ((List.replicate 32 (0 : Int)).map (Value.int .u32)).toArray 30 (0, 0))) (hne : R ≠ O) :
    Calls Tryd.prog 32 #[.iface 34 (.pointer (some ⟨R, 0, none⟩)), .slice (some ⟨O, 0, none⟩) 32 32] w fun e w' => e = .returned (.tuple #[]) ∧
      w'.heap[O]? = some (.cells ((fields l 32).map (Value.int .u32)).toArray 30 (0, 0)) ∧ Kept w w' (fun k => k = R ∨ k = O) ∧ Below (min R O) w w' := by
  have HS := Aside0.mk (St2.start (ad := ad) (c := c) (l := l) hR hO hne (by simp))
  have HH := Aside0.mk H
  have HL := Aside0.mk hl
  clear H hR hO hl
  go_enter Tryd.func32, Tryd.ntmps32
  go_wp2_with fail
  refine wp_loop_rounds 33 ?_
  rw [rounds_succ]
  go_wp2_with (go_at_call 40; refine (St2.little HH.out HS.out (k := 0) (by rw [HL.out]; decide) 0 (by decide)).mono ?_; rintro e W_ ⟨rfl, hst⟩; have n0_ := Aside0.mk hst; clear hst HS; have HS := n0_; clear n0_)
  rw [rounds_succ]
  go_wp2_with (go_at_call 40; refine (St2.little HH.out HS.out (k := 1) (by rw [HL.out]; decide) 1 (by decide)).mono ?_; rintro e W_ ⟨rfl, hst⟩; have n0_ := Aside0.mk hst; clear hst HS; have HS := n0_; clear n0_)
  rw [rounds_succ]
  go_wp2_with (go_at_call 40; refine (St2.little HH.out HS.out (k := 2) (by rw [HL.out]; decide) 2 (by decide)).mono ?_; rintro e W_ ⟨rfl, hst⟩; have n0_ := Aside0.mk hst; clear hst HS; have HS := n0_; clear n0_)
  rw [rounds_succ]
  go_wp2_with (go_at_call 40; refine (St2.little HH.out HS.out (k := 3) (by rw [HL.out]; decide) 3 (by decide)).mono ?_; rintro e W_ ⟨rfl, hst⟩; have n0_ := Aside0.mk hst; clear hst HS; have HS := n0_; clear n0_)
  rw [rounds_succ]
  go_wp2_with (go_at_call 40; refine (St2.little HH.out HS.out (k := 4) (by rw [HL.out]; decide) 4 (by decide)).mono ?_; rintro e W_ ⟨rfl, hst⟩; have n0_ := Aside0.mk hst; clear hst HS; have HS := n0_; clear n0_)
  rw [rounds_succ]
  go_wp2_with (go_at_call 40; refine (St2.little HH.out HS.out (k := 5) (by rw [HL.out]; decide) 5 (by decide)).mono ?_; rintro e W_ ⟨rfl, hst⟩; have n0_ := Aside0.mk hst; clear hst HS; have HS := n0_; clear n0_)
  rw [rounds_succ]
  go_wp2_with (go_at_call 40; refine (St2.little HH.out HS.out (k := 6) (by rw [HL.out]; decide) 6 (by decide)).mono ?_; rintro e W_ ⟨rfl, hst⟩; have n0_ := Aside0.mk hst; clear hst HS; have HS := n0_; clear n0_)
  rw [rounds_succ]
  go_wp2_with (go_at_call 40; refine (St2.little HH.out HS.out (k := 7) (by rw [HL.out]; decide) 7 (by decide)).mono ?_; rintro e W_ ⟨rfl, hst⟩; have n0_ := Aside0.mk hst; clear hst HS; have HS := n0_; clear n0_)
  rw [rounds_succ]
  go_wp2_with (go_at_call 40; refine (St2.little HH.out HS.out (k := 8) (by rw [HL.out]; decide) 8 (by decide)).mono ?_; rintro e W_ ⟨rfl, hst⟩; have n0_ := Aside0.mk hst; clear hst HS; have HS := n0_; clear n0_)
  rw [rounds_succ]
  go_wp2_with (go_at_call 40; refine (St2.little HH.out HS.out (k := 9) (by rw [HL.out]; decide) 9 (by decide)).mono ?_; rintro e W_ ⟨rfl, hst⟩; have n0_ := Aside0.mk hst; clear hst HS; have HS := n0_; clear n0_)
  rw [rounds_succ]
  go_wp2_with (go_at_call 40; refine (St2.little HH.out HS.out (k := 10) (by rw [HL.out]; decide) 10 (by decide)).mono ?_; rintro e W_ ⟨rfl, hst⟩; have n0_ := Aside0.mk hst; clear hst HS; have HS := n0_; clear n0_)
  rw [rounds_succ]
  go_wp2_with (go_at_call 40; refine (St2.little HH.out HS.out (k := 11) (by rw [HL.out]; decide) 11 (by decide)).mono ?_; rintro e W_ ⟨rfl, hst⟩; have n0_ := Aside0.mk hst; clear hst HS; have HS := n0_; clear n0_)
  rw [rounds_succ]
  go_wp2_with (go_at_call 40; refine (St2.little HH.out HS.out (k := 12) (by rw [HL.out]; decide) 12 (by decide)).mono ?_; rintro e W_ ⟨rfl, hst⟩; have n0_ := Aside0.mk hst; clear hst HS; have HS := n0_; clear n0_)
  rw [rounds_succ]
  go_wp2_with (go_at_call 40; refine (St2.little HH.out HS.out (k := 13) (by rw [HL.out]; decide) 13 (by decide)).mono ?_; rintro e W_ ⟨rfl, hst⟩; have n0_ := Aside0.mk hst; clear hst HS; have HS := n0_; clear n0_)
  rw [rounds_succ]
  go_wp2_with (go_at_call 40; refine (St2.little HH.out HS.out (k := 14) (by rw [HL.out]; decide) 14 (by decide)).mono ?_; rintro e W_ ⟨rfl, hst⟩; have n0_ := Aside0.mk hst; clear hst HS; have HS := n0_; clear n0_)
  rw [rounds_succ]
  go_wp2_with (go_at_call 40; refine (St2.little HH.out HS.out (k := 15) (by rw [HL.out]; decide) 15 (by decide)).mono ?_; rintro e W_ ⟨rfl, hst⟩; have n0_ := Aside0.mk hst; clear hst HS; have HS := n0_; clear n0_)
  rw [rounds_succ]
  go_wp2_with (go_at_call 40; refine (St2.little HH.out HS.out (k := 16) (by rw [HL.out]; decide) 16 (by decide)).mono ?_; rintro e W_ ⟨rfl, hst⟩; have n0_ := Aside0.mk hst; clear hst HS; have HS := n0_; clear n0_)
  rw [rounds_succ]
  go_wp2_with (go_at_call 40; refine (St2.little HH.out HS.out (k := 17) (by rw [HL.out]; decide) 17 (by decide)).mono ?_; rintro e W_ ⟨rfl, hst⟩; have n0_ := Aside0.mk hst; clear hst HS; have HS := n0_; clear n0_)
  rw [rounds_succ]
  go_wp2_with (go_at_call 40; refine (St2.little HH.out HS.out (k := 18) (by rw [HL.out]; decide) 18 (by decide)).mono ?_; rintro e W_ ⟨rfl, hst⟩; have n0_ := Aside0.mk hst; clear hst HS; have HS := n0_; clear n0_)
  rw [rounds_succ]
  go_wp2_with (go_at_call 40; refine (St2.little HH.out HS.out (k := 19) (by rw [HL.out]; decide) 19 (by decide)).mono ?_; rintro e W_ ⟨rfl, hst⟩; have n0_ := Aside0.mk hst; clear hst HS; have HS := n0_; clear n0_)
  rw [rounds_succ]
  go_wp2_with (go_at_call 40; refine (St2.little HH.out HS.out (k := 20) (by rw [HL.out]; decide) 20 (by decide)).mono ?_; rintro e W_ ⟨rfl, hst⟩; have n0_ := Aside0.mk hst; clear hst HS; have HS := n0_; clear n0_)
  rw [rounds_succ]
  go_wp2_with (go_at_call 40; refine (St2.little HH.out HS.out (k := 21) (by rw [HL.out]; decide) 21 (by decide)).mono ?_; rintro e W_ ⟨rfl, hst⟩; have n0_ := Aside0.mk hst; clear hst HS; have HS := n0_; clear n0_)
  rw [rounds_succ]
  go_wp2_with (go_at_call 40; refine (St2.little HH.out HS.out (k := 22) (by rw [HL.out]; decide) 22 (by decide)).mono ?_; rintro e W_ ⟨rfl, hst⟩; have n0_ := Aside0.mk hst; clear hst HS; have HS := n0_; clear n0_)
  rw [rounds_succ]
  go_wp2_with (go_at_call 40; refine (St2.little HH.out HS.out (k := 23) (by rw [HL.out]; decide) 23 (by decide)).mono ?_; rintro e W_ ⟨rfl, hst⟩; have n0_ := Aside0.mk hst; clear hst HS; have HS := n0_; clear n0_)
  rw [rounds_succ]
  go_wp2_with (go_at_call 40; refine (St2.little HH.out HS.out (k := 24) (by rw [HL.out]; decide) 24 (by decide)).mono ?_; rintro e W_ ⟨rfl, hst⟩; have n0_ := Aside0.mk hst; clear hst HS; have HS := n0_; clear n0_)
  rw [rounds_succ]
  go_wp2_with (go_at_call 40; refine (St2.little HH.out HS.out (k := 25) (by rw [HL.out]; decide) 25 (by decide)).mono ?_; rintro e W_ ⟨rfl, hst⟩; have n0_ := Aside0.mk hst; clear hst HS; have HS := n0_; clear n0_)
  rw [rounds_succ]
  go_wp2_with (go_at_call 40; refine (St2.little HH.out HS.out (k := 26) (by rw [HL.out]; decide) 26 (by decide)).mono ?_; rintro e W_ ⟨rfl, hst⟩; have n0_ := Aside0.mk hst; clear hst HS; have HS := n0_; clear n0_)
  rw [rounds_succ]
  go_wp2_with (go_at_call 40; refine (St2.little HH.out HS.out (k := 27) (by rw [HL.out]; decide) 27 (by decide)).mono ?_; rintro e W_ ⟨rfl, hst⟩; have n0_ := Aside0.mk hst; clear hst HS; have HS := n0_; clear n0_)
  rw [rounds_succ]
  go_wp2_with (go_at_call 40; refine (St2.little HH.out HS.out (k := 28) (by rw [HL.out]; decide) 28 (by decide)).mono ?_; rintro e W_ ⟨rfl, hst⟩; have n0_ := Aside0.mk hst; clear hst HS; have HS := n0_; clear n0_)
  rw [rounds_succ]
  go_wp2_with (go_at_call 40; refine (St2.little HH.out HS.out (k := 29) (by rw [HL.out]; decide) 29 (by decide)).mono ?_; rintro e W_ ⟨rfl, hst⟩; have n0_ := Aside0.mk hst; clear hst HS; have HS := n0_; clear n0_)
  rw [rounds_succ]
  go_wp2_with (go_at_call 40; refine (St2.little HH.out HS.out (k := 30) (by rw [HL.out]; decide) 30 (by decide)).mono ?_; rintro e W_ ⟨rfl, hst⟩; have n0_ := Aside0.mk hst; clear hst HS; have HS := n0_; clear n0_)
  rw [rounds_succ]
  go_wp2_with (go_at_call 40; refine (St2.little HH.out HS.out (k := 31) (by rw [HL.out]; decide) 31 (by decide)).mono ?_; rintro e W_ ⟨rfl, hst⟩; have n0_ := Aside0.mk hst; clear hst HS; have HS := n0_; clear n0_)
  rw [rounds_succ]
  go_wp2_with fail
  refine bodyPost_end (results_none rfl _ _ _) rfl ?_
  have hrow := HS.out.row
  simp only [List.replicate, List.set] at hrow
  have hrow2 : W_.heap[O]? = some (.cells ((lit32 l).map (Value.int .u32)).toArray 30 (0, 0)) := by unfold lit32; exact hrow
  rw [lit32_is] at hrow2
  exact ⟨rfl, hrow2, HS.out.kept, HS.out.below⟩
end Go.Proofs.YtidcmpjcghbofaaDoor.Q
