/- The walk of the unpacking of 24 bits: what is unpacked are the fields of the bytes' number. -/
import Derived.Test.YtidcmpjcghbofaaDoorUb
import Derived.Test.YtidcmpjcghbofaaDoorUf
import Derived.Recover
import Derived.Handy
import Derived.StillTailTactics
import Derived.Laws.CopyOwn
import Derived.Deep.RegionLaw
import Derived.Test.YtidcmpjcghbofaaDoorNum
namespace Go.Proofs.YtidcmpjcghbofaaDoor.Q
open Go.RowKit Go.Proofs.YtidcmpjcghbofaaDoorW.PrintWords Go.Proofs.YtidcmpjcghbofaaDoorW.PrintLast Go.Proofs.YtidcmpjcghbofaaDoorW.PrintMore
set_option linter.unusedVariables false
set_option linter.unusedSimpArgs false
def lit24 (l : List Int) : List Int := [((word l 0 : Nat) : Int) % 16777216, bits .or .u32 (((word l 0 : Nat) : Int) / 16777216) (IntKind.u32.wrap (((word l 1 : Nat) : Int).tmod 65536 * 256)), bits .or .u32 (((word l 1 : Nat) : Int) / 65536) (IntKind.u32.wrap (((word l 2 : Nat) : Int).tmod 256 * 65536)), ((word l 2 : Nat) : Int) / 256, ((word l 3 : Nat) : Int) % 16777216, bits .or .u32 (((word l 3 : Nat) : Int) / 16777216) (IntKind.u32.wrap (((word l 4 : Nat) : Int).tmod 65536 * 256)), bits .or .u32 (((word l 4 : Nat) : Int) / 65536) (IntKind.u32.wrap (((word l 5 : Nat) : Int).tmod 256 * 65536)), ((word l 5 : Nat) : Int) / 256, ((word l 6 : Nat) : Int) % 16777216, bits .or .u32 (((word l 6 : Nat) : Int) / 16777216) (IntKind.u32.wrap (((word l 7 : Nat) : Int).tmod 65536 * 256)), bits .or .u32 (((word l 7 : Nat) : Int) / 65536) (IntKind.u32.wrap (((word l 8 : Nat) : Int).tmod 256 * 65536)), ((word l 8 : Nat) : Int) / 256, ((word l 9 : Nat) : Int) % 16777216, bits .or .u32 (((word l 9 : Nat) : Int) / 16777216) (IntKind.u32.wrap (((word l 10 : Nat) : Int).tmod 65536 * 256)), bits .or .u32 (((word l 10 : Nat) : Int) / 65536) (IntKind.u32.wrap (((word l 11 : Nat) : Int).tmod 256 * 65536)), ((word l 11 : Nat) : Int) / 256, ((word l 12 : Nat) : Int) % 16777216, bits .or .u32 (((word l 12 : Nat) : Int) / 16777216) (IntKind.u32.wrap (((word l 13 : Nat) : Int).tmod 65536 * 256)), bits .or .u32 (((word l 13 : Nat) : Int) / 65536) (IntKind.u32.wrap (((word l 14 : Nat) : Int).tmod 256 * 65536)), ((word l 14 : Nat) : Int) / 256, ((word l 15 : Nat) : Int) % 16777216, bits .or .u32 (((word l 15 : Nat) : Int) / 16777216) (IntKind.u32.wrap (((word l 16 : Nat) : Int).tmod 65536 * 256)), bits .or .u32 (((word l 16 : Nat) : Int) / 65536) (IntKind.u32.wrap (((word l 17 : Nat) : Int).tmod 256 * 65536)), ((word l 17 : Nat) : Int) / 256, ((word l 18 : Nat) : Int) % 16777216, bits .or .u32 (((word l 18 : Nat) : Int) / 16777216) (IntKind.u32.wrap (((word l 19 : Nat) : Int).tmod 65536 * 256)), bits .or .u32 (((word l 19 : Nat) : Int) / 65536) (IntKind.u32.wrap (((word l 20 : Nat) : Int).tmod 256 * 65536)), ((word l 20 : Nat) : Int) / 256, ((word l 21 : Nat) : Int) % 16777216, bits .or .u32 (((word l 21 : Nat) : Int) / 16777216) (IntKind.u32.wrap (((word l 22 : Nat) : Int).tmod 65536 * 256)), bits .or .u32 (((word l 22 : Nat) : Int) / 65536) (IntKind.u32.wrap (((word l 23 : Nat) : Int).tmod 256 * 65536)), ((word l 23 : Nat) : Int) / 256]
theorem lit24_is (l : List Int) : lit24 l = fields l 24 :=
  cons_eq (fld_first l 24 0 0 (by decide) (by decide) 16777216 (by decide)) <|
  cons_eq (fld_over l 24 1 0 24 16 (by decide) (by decide) (by decide) (by decide) (by decide) 16777216 65536 256 (by decide) (by decide) (by decide)) <|
  cons_eq (fld_over l 24 2 1 16 8 (by decide) (by decide) (by decide) (by decide) (by decide) 65536 256 65536 (by decide) (by decide) (by decide)) <|
  cons_eq (fld_top l 24 3 2 8 (by decide) (by decide) 256 (by decide)) <|
  cons_eq (fld_first l 24 4 3 (by decide) (by decide) 16777216 (by decide)) <|
  cons_eq (fld_over l 24 5 3 24 16 (by decide) (by decide) (by decide) (by decide) (by decide) 16777216 65536 256 (by decide) (by decide) (by decide)) <|
  cons_eq (fld_over l 24 6 4 16 8 (by decide) (by decide) (by decide) (by decide) (by decide) 65536 256 65536 (by decide) (by decide) (by decide)) <|
  cons_eq (fld_top l 24 7 5 8 (by decide) (by decide) 256 (by decide)) <|
  cons_eq (fld_first l 24 8 6 (by decide) (by decide) 16777216 (by decide)) <|
  cons_eq (fld_over l 24 9 6 24 16 (by decide) (by decide) (by decide) (by decide) (by decide) 16777216 65536 256 (by decide) (by decide) (by decide)) <|
  cons_eq (fld_over l 24 10 7 16 8 (by decide) (by decide) (by decide) (by decide) (by decide) 65536 256 65536 (by decide) (by decide) (by decide)) <|
  cons_eq (fld_top l 24 11 8 8 (by decide) (by decide) 256 (by decide)) <|
  cons_eq (fld_first l 24 12 9 (by decide) (by decide) 16777216 (by decide)) <|
  cons_eq (fld_over l 24 13 9 24 16 (by decide) (by decide) (by decide) (by decide) (by decide) 16777216 65536 256 (by decide) (by decide) (by decide)) <|
  cons_eq (fld_over l 24 14 10 16 8 (by decide) (by decide) (by decide) (by decide) (by decide) 65536 256 65536 (by decide) (by decide) (by decide)) <|
  cons_eq (fld_top l 24 15 11 8 (by decide) (by decide) 256 (by decide)) <|
  cons_eq (fld_first l 24 16 12 (by decide) (by decide) 16777216 (by decide)) <|
  cons_eq (fld_over l 24 17 12 24 16 (by decide) (by decide) (by decide) (by decide) (by decide) 16777216 65536 256 (by decide) (by decide) (by decide)) <|
  cons_eq (fld_over l 24 18 13 16 8 (by decide) (by decide) (by decide) (by decide) (by decide) 65536 256 65536 (by decide) (by decide) (by decide)) <|
  cons_eq (fld_top l 24 19 14 8 (by decide) (by decide) 256 (by decide)) <|
  cons_eq (fld_first l 24 20 15 (by decide) (by decide) 16777216 (by decide)) <|
  cons_eq (fld_over l 24 21 15 24 16 (by decide) (by decide) (by decide) (by decide) (by decide) 16777216 65536 256 (by decide) (by decide) (by decide)) <|
  cons_eq (fld_over l 24 22 16 16 8 (by decide) (by decide) (by decide) (by decide) (by decide) 65536 256 65536 (by decide) (by decide) (by decide)) <|
  cons_eq (fld_top l 24 23 17 8 (by decide) (by decide) 256 (by decide)) <|
  cons_eq (fld_first l 24 24 18 (by decide) (by decide) 16777216 (by decide)) <|
  cons_eq (fld_over l 24 25 18 24 16 (by decide) (by decide) (by decide) (by decide) (by decide) 16777216 65536 256 (by decide) (by decide) (by decide)) <|
  cons_eq (fld_over l 24 26 19 16 8 (by decide) (by decide) (by decide) (by decide) (by decide) 65536 256 65536 (by decide) (by decide) (by decide)) <|
  cons_eq (fld_top l 24 27 20 8 (by decide) (by decide) 256 (by decide)) <|
  cons_eq (fld_first l 24 28 21 (by decide) (by decide) 16777216 (by decide)) <|
  cons_eq (fld_over l 24 29 21 24 16 (by decide) (by decide) (by decide) (by decide) (by decide) 16777216 65536 256 (by decide) (by decide) (by decide)) <|
  cons_eq (fld_over l 24 30 22 16 8 (by decide) (by decide) (by decide) (by decide) (by decide) 65536 256 65536 (by decide) (by decide) (by decide)) <|
  cons_eq (fld_top l 24 31 23 8 (by decide) (by decide) 256 (by decide)) <| rfl
set_option maxHeartbeats 16000000 in
set_option maxRecDepth 100000 in
theorem unpack24_32.calls (R O : Nat) (ad : Addr) (c : Nat) (q : Int) (l : List Int) (w : World) (hl : l.length = 96) (H : Src w R O ad c l)
    (hR : w.heap[R]? = some (.cells #[.slice (some ad) l.length c, .int .i64 0, .int .i64 q] 43 (0, 0)))
    (hO : w.heap[O]? = some (.cells ((List.replicate 32 (0 : Int)).map (Value.int .u32)).toArray 30 (0, 0))) (hne : R ≠ O) :
    Calls Tryd.prog 34 #[.iface 34 (.pointer (some ⟨R, 0, none⟩)), .slice (some ⟨O, 0, none⟩) 32 32] w fun e w' => e = .returned (.tuple #[]) ∧
      w'.heap[O]? = some (.cells ((fields l 24).map (Value.int .u32)).toArray 30 (0, 0)) ∧ Kept w w' (fun k => k = R ∨ k = O) ∧ Below (min R O) w w' := by
  have HS := Aside0.mk (St.start hR hO hne (by simp))
  have HH := Aside0.mk H
  have HL := Aside0.mk hl
  have cI := HS.out.cellI
  have cO := HS.out.cellD
  have fO := HS.out.freeO
  clear H hR hO hl
  go_enter Tryd.func34, Tryd.ntmps34
  go_wp2_with fail
  refine wp_loop_rounds 9 ?_
  rw [rounds_succ]
  go_wp2_with (first | (go_at_call 40; refine (St.little HH.out HS.out (k := 0) (by rw [HL.out]; decide)).mono ?_; rintro e W_ ⟨rfl, hst⟩; have n0_ := Aside0.mk hst; clear hst HS cI cO fO; have HS := n0_; clear n0_; have cI := HS.out.cellI; have cO := HS.out.cellD; have fO := HS.out.freeO) | ((with_reducible refine gate_store (t := 30) (p := 20) rfl ?_); refine store_event (t := 30) (p := 20) (v := ?vo1) (w1 := ?w11) ?hg1 ?ho1 ?hn1 ?hr1 ?_; (case ho1 => rfl); (case hg1 => rfl); (case hn1 => rfl); (case hr1 => (go_simp;rfl)); intro W_ hw; have n0_ := Aside0.mk (HS.out.put hw); clear hw HS cI cO fO; have HS := n0_; clear n0_; have cI := HS.out.cellI; have cO := HS.out.cellD; have fO := HS.out.freeO) | ((with_reducible refine gate_store (t := 30) (p := 26) rfl ?_); refine store_event (t := 30) (p := 26) (v := ?vo2) (w1 := ?w12) ?hg2 ?ho2 ?hn2 ?hr2 ?_; (case ho2 => rfl); (case hg2 => rfl); (case hn2 => rfl); (case hr2 => (go_simp;rfl)); intro W_ hw; have n0_ := Aside0.mk (HS.out.put hw); clear hw HS cI cO fO; have HS := n0_; clear n0_; have cI := HS.out.cellI; have cO := HS.out.cellD; have fO := HS.out.freeO) | (go_at_call 40; refine (St.little HH.out HS.out (k := 1) (by rw [HL.out]; decide)).mono ?_; rintro e W_ ⟨rfl, hst⟩; have n0_ := Aside0.mk hst; clear hst HS cI cO fO; have HS := n0_; clear n0_; have cI := HS.out.cellI; have cO := HS.out.cellD; have fO := HS.out.freeO))
  have wix_ : IntKind.i64.wrap 1 = 1 := by decide
  go_still_tail 10, (by kernel_rfl)
  clear wix_
  change wpList _ _ _ _ _ W_.drew
  have n0_ := Aside0.mk HS.out.drew
  clear HS cI cO fO
  generalize W_.drew = W_ at n0_ ⊢
  have HS := n0_
  clear n0_
  have cI := HS.out.cellI
  have cO := HS.out.cellD
  have fO := HS.out.freeO
  refine store_event (t := 30) (p := 38) (v := ?vo3) (w1 := ?w13) ?hg3 ?ho3 ?hn3 ?hr3 ?_
  (case ho3 => rfl)
  (case hg3 => rfl)
  (case hn3 => rfl)
  (case hr3 => (go_simp;rfl))
  intro W_ hw
  have n0_ := Aside0.mk (HS.out.put hw)
  clear hw HS cI cO fO
  have HS := n0_
  clear n0_
  have cI := HS.out.cellI
  have cO := HS.out.cellD
  have fO := HS.out.freeO
  go_wp2_with (first | ((with_reducible refine gate_store (t := 30) (p := 44) rfl ?_); refine store_event (t := 30) (p := 44) (v := ?vo4) (w1 := ?w14) ?hg4 ?ho4 ?hn4 ?hr4 ?_; (case ho4 => rfl); (case hg4 => rfl); (case hn4 => rfl); (case hr4 => (go_simp;rfl)); intro W_ hw; have n0_ := Aside0.mk (HS.out.put hw); clear hw HS cI cO fO; have HS := n0_; clear n0_; have cI := HS.out.cellI; have cO := HS.out.cellD; have fO := HS.out.freeO) | (go_at_call 40; refine (St.little HH.out HS.out (k := 2) (by rw [HL.out]; decide)).mono ?_; rintro e W_ ⟨rfl, hst⟩; have n0_ := Aside0.mk hst; clear hst HS cI cO fO; have HS := n0_; clear n0_; have cI := HS.out.cellI; have cO := HS.out.cellD; have fO := HS.out.freeO))
  have wix_ : IntKind.i64.wrap 2 = 2 := by decide
  go_still_tail 10, (by kernel_rfl)
  clear wix_
  change wpList _ _ _ _ _ W_.drew
  have n0_ := Aside0.mk HS.out.drew
  clear HS cI cO fO
  generalize W_.drew = W_ at n0_ ⊢
  have HS := n0_
  clear n0_
  have cI := HS.out.cellI
  have cO := HS.out.cellD
  have fO := HS.out.freeO
  refine store_event (t := 30) (p := 56) (v := ?vo5) (w1 := ?w15) ?hg5 ?ho5 ?hn5 ?hr5 ?_
  (case ho5 => rfl)
  (case hg5 => rfl)
  (case hn5 => rfl)
  (case hr5 => (go_simp;rfl))
  intro W_ hw
  have n0_ := Aside0.mk (HS.out.put hw)
  clear hw HS cI cO fO
  have HS := n0_
  clear n0_
  have cI := HS.out.cellI
  have cO := HS.out.cellD
  have fO := HS.out.freeO
  go_wp2_with (first | ((with_reducible refine gate_store (t := 30) (p := 62) rfl ?_); refine store_event (t := 30) (p := 62) (v := ?vo6) (w1 := ?w16) ?hg6 ?ho6 ?hn6 ?hr6 ?_; (case ho6 => rfl); (case hg6 => rfl); (case hn6 => rfl); (case hr6 => (go_simp;rfl)); intro W_ hw; have n0_ := Aside0.mk (HS.out.put hw); clear hw HS cI cO fO; have HS := n0_; clear n0_; have cI := HS.out.cellI; have cO := HS.out.cellD; have fO := HS.out.freeO))
  rw [rounds_succ]
  go_wp2_with (first | (go_at_call 40; refine (St.little HH.out HS.out (k := 3) (by rw [HL.out]; decide)).mono ?_; rintro e W_ ⟨rfl, hst⟩; have n0_ := Aside0.mk hst; clear hst HS cI cO fO; have HS := n0_; clear n0_; have cI := HS.out.cellI; have cO := HS.out.cellD; have fO := HS.out.freeO) | ((with_reducible refine gate_store (t := 30) (p := 20) rfl ?_); refine store_event (t := 30) (p := 20) (v := ?vo7) (w1 := ?w17) ?hg7 ?ho7 ?hn7 ?hr7 ?_; (case ho7 => rfl); (case hg7 => rfl); (case hn7 => rfl); (case hr7 => (go_simp;rfl)); intro W_ hw; have n0_ := Aside0.mk (HS.out.put hw); clear hw HS cI cO fO; have HS := n0_; clear n0_; have cI := HS.out.cellI; have cO := HS.out.cellD; have fO := HS.out.freeO) | ((with_reducible refine gate_store (t := 30) (p := 26) rfl ?_); refine store_event (t := 30) (p := 26) (v := ?vo8) (w1 := ?w18) ?hg8 ?ho8 ?hn8 ?hr8 ?_; (case ho8 => rfl); (case hg8 => rfl); (case hn8 => rfl); (case hr8 => (go_simp;rfl)); intro W_ hw; have n0_ := Aside0.mk (HS.out.put hw); clear hw HS cI cO fO; have HS := n0_; clear n0_; have cI := HS.out.cellI; have cO := HS.out.cellD; have fO := HS.out.freeO) | (go_at_call 40; refine (St.little HH.out HS.out (k := 4) (by rw [HL.out]; decide)).mono ?_; rintro e W_ ⟨rfl, hst⟩; have n0_ := Aside0.mk hst; clear hst HS cI cO fO; have HS := n0_; clear n0_; have cI := HS.out.cellI; have cO := HS.out.cellD; have fO := HS.out.freeO))
  have wix_ : IntKind.i64.wrap 5 = 5 := by decide
  go_still_tail 10, (by kernel_rfl)
  clear wix_
  change wpList _ _ _ _ _ W_.drew
  have n0_ := Aside0.mk HS.out.drew
  clear HS cI cO fO
  generalize W_.drew = W_ at n0_ ⊢
  have HS := n0_
  clear n0_
  have cI := HS.out.cellI
  have cO := HS.out.cellD
  have fO := HS.out.freeO
  refine store_event (t := 30) (p := 38) (v := ?vo9) (w1 := ?w19) ?hg9 ?ho9 ?hn9 ?hr9 ?_
  (case ho9 => rfl)
  (case hg9 => rfl)
  (case hn9 => rfl)
  (case hr9 => (go_simp;rfl))
  intro W_ hw
  have n0_ := Aside0.mk (HS.out.put hw)
  clear hw HS cI cO fO
  have HS := n0_
  clear n0_
  have cI := HS.out.cellI
  have cO := HS.out.cellD
  have fO := HS.out.freeO
  go_wp2_with (first | ((with_reducible refine gate_store (t := 30) (p := 44) rfl ?_); refine store_event (t := 30) (p := 44) (v := ?vo10) (w1 := ?w110) ?hg10 ?ho10 ?hn10 ?hr10 ?_; (case ho10 => rfl); (case hg10 => rfl); (case hn10 => rfl); (case hr10 => (go_simp;rfl)); intro W_ hw; have n0_ := Aside0.mk (HS.out.put hw); clear hw HS cI cO fO; have HS := n0_; clear n0_; have cI := HS.out.cellI; have cO := HS.out.cellD; have fO := HS.out.freeO) | (go_at_call 40; refine (St.little HH.out HS.out (k := 5) (by rw [HL.out]; decide)).mono ?_; rintro e W_ ⟨rfl, hst⟩; have n0_ := Aside0.mk hst; clear hst HS cI cO fO; have HS := n0_; clear n0_; have cI := HS.out.cellI; have cO := HS.out.cellD; have fO := HS.out.freeO))
  have wix_ : IntKind.i64.wrap 6 = 6 := by decide
  go_still_tail 10, (by kernel_rfl)
  clear wix_
  change wpList _ _ _ _ _ W_.drew
  have n0_ := Aside0.mk HS.out.drew
  clear HS cI cO fO
  generalize W_.drew = W_ at n0_ ⊢
  have HS := n0_
  clear n0_
  have cI := HS.out.cellI
  have cO := HS.out.cellD
  have fO := HS.out.freeO
  refine store_event (t := 30) (p := 56) (v := ?vo11) (w1 := ?w111) ?hg11 ?ho11 ?hn11 ?hr11 ?_
  (case ho11 => rfl)
  (case hg11 => rfl)
  (case hn11 => rfl)
  (case hr11 => (go_simp;rfl))
  intro W_ hw
  have n0_ := Aside0.mk (HS.out.put hw)
  clear hw HS cI cO fO
  have HS := n0_
  clear n0_
  have cI := HS.out.cellI
  have cO := HS.out.cellD
  have fO := HS.out.freeO
  go_wp2_with (first | ((with_reducible refine gate_store (t := 30) (p := 62) rfl ?_); refine store_event (t := 30) (p := 62) (v := ?vo12) (w1 := ?w112) ?hg12 ?ho12 ?hn12 ?hr12 ?_; (case ho12 => rfl); (case hg12 => rfl); (case hn12 => rfl); (case hr12 => (go_simp;rfl)); intro W_ hw; have n0_ := Aside0.mk (HS.out.put hw); clear hw HS cI cO fO; have HS := n0_; clear n0_; have cI := HS.out.cellI; have cO := HS.out.cellD; have fO := HS.out.freeO))
  rw [rounds_succ]
  go_wp2_with (first | (go_at_call 40; refine (St.little HH.out HS.out (k := 6) (by rw [HL.out]; decide)).mono ?_; rintro e W_ ⟨rfl, hst⟩; have n0_ := Aside0.mk hst; clear hst HS cI cO fO; have HS := n0_; clear n0_; have cI := HS.out.cellI; have cO := HS.out.cellD; have fO := HS.out.freeO) | ((with_reducible refine gate_store (t := 30) (p := 20) rfl ?_); refine store_event (t := 30) (p := 20) (v := ?vo13) (w1 := ?w113) ?hg13 ?ho13 ?hn13 ?hr13 ?_; (case ho13 => rfl); (case hg13 => rfl); (case hn13 => rfl); (case hr13 => (go_simp;rfl)); intro W_ hw; have n0_ := Aside0.mk (HS.out.put hw); clear hw HS cI cO fO; have HS := n0_; clear n0_; have cI := HS.out.cellI; have cO := HS.out.cellD; have fO := HS.out.freeO) | ((with_reducible refine gate_store (t := 30) (p := 26) rfl ?_); refine store_event (t := 30) (p := 26) (v := ?vo14) (w1 := ?w114) ?hg14 ?ho14 ?hn14 ?hr14 ?_; (case ho14 => rfl); (case hg14 => rfl); (case hn14 => rfl); (case hr14 => (go_simp;rfl)); intro W_ hw; have n0_ := Aside0.mk (HS.out.put hw); clear hw HS cI cO fO; have HS := n0_; clear n0_; have cI := HS.out.cellI; have cO := HS.out.cellD; have fO := HS.out.freeO) | (go_at_call 40; refine (St.little HH.out HS.out (k := 7) (by rw [HL.out]; decide)).mono ?_; rintro e W_ ⟨rfl, hst⟩; have n0_ := Aside0.mk hst; clear hst HS cI cO fO; have HS := n0_; clear n0_; have cI := HS.out.cellI; have cO := HS.out.cellD; have fO := HS.out.freeO))
  have wix_ : IntKind.i64.wrap 9 = 9 := by decide
  go_still_tail 10, (by kernel_rfl)
  clear wix_
  change wpList _ _ _ _ _ W_.drew
  have n0_ := Aside0.mk HS.out.drew
  clear HS cI cO fO
  generalize W_.drew = W_ at n0_ ⊢
  have HS := n0_
  clear n0_
  have cI := HS.out.cellI
  have cO := HS.out.cellD
  have fO := HS.out.freeO
  refine store_event (t := 30) (p := 38) (v := ?vo15) (w1 := ?w115) ?hg15 ?ho15 ?hn15 ?hr15 ?_
  (case ho15 => rfl)
  (case hg15 => rfl)
  (case hn15 => rfl)
  (case hr15 => (go_simp;rfl))
  intro W_ hw
  have n0_ := Aside0.mk (HS.out.put hw)
  clear hw HS cI cO fO
  have HS := n0_
  clear n0_
  have cI := HS.out.cellI
  have cO := HS.out.cellD
  have fO := HS.out.freeO
  go_wp2_with (first | ((with_reducible refine gate_store (t := 30) (p := 44) rfl ?_); refine store_event (t := 30) (p := 44) (v := ?vo16) (w1 := ?w116) ?hg16 ?ho16 ?hn16 ?hr16 ?_; (case ho16 => rfl); (case hg16 => rfl); (case hn16 => rfl); (case hr16 => (go_simp;rfl)); intro W_ hw; have n0_ := Aside0.mk (HS.out.put hw); clear hw HS cI cO fO; have HS := n0_; clear n0_; have cI := HS.out.cellI; have cO := HS.out.cellD; have fO := HS.out.freeO) | (go_at_call 40; refine (St.little HH.out HS.out (k := 8) (by rw [HL.out]; decide)).mono ?_; rintro e W_ ⟨rfl, hst⟩; have n0_ := Aside0.mk hst; clear hst HS cI cO fO; have HS := n0_; clear n0_; have cI := HS.out.cellI; have cO := HS.out.cellD; have fO := HS.out.freeO))
  have wix_ : IntKind.i64.wrap 10 = 10 := by decide
  go_still_tail 10, (by kernel_rfl)
  clear wix_
  change wpList _ _ _ _ _ W_.drew
  have n0_ := Aside0.mk HS.out.drew
  clear HS cI cO fO
  generalize W_.drew = W_ at n0_ ⊢
  have HS := n0_
  clear n0_
  have cI := HS.out.cellI
  have cO := HS.out.cellD
  have fO := HS.out.freeO
  refine store_event (t := 30) (p := 56) (v := ?vo17) (w1 := ?w117) ?hg17 ?ho17 ?hn17 ?hr17 ?_
  (case ho17 => rfl)
  (case hg17 => rfl)
  (case hn17 => rfl)
  (case hr17 => (go_simp;rfl))
  intro W_ hw
  have n0_ := Aside0.mk (HS.out.put hw)
  clear hw HS cI cO fO
  have HS := n0_
  clear n0_
  have cI := HS.out.cellI
  have cO := HS.out.cellD
  have fO := HS.out.freeO
  go_wp2_with (first | ((with_reducible refine gate_store (t := 30) (p := 62) rfl ?_); refine store_event (t := 30) (p := 62) (v := ?vo18) (w1 := ?w118) ?hg18 ?ho18 ?hn18 ?hr18 ?_; (case ho18 => rfl); (case hg18 => rfl); (case hn18 => rfl); (case hr18 => (go_simp;rfl)); intro W_ hw; have n0_ := Aside0.mk (HS.out.put hw); clear hw HS cI cO fO; have HS := n0_; clear n0_; have cI := HS.out.cellI; have cO := HS.out.cellD; have fO := HS.out.freeO))
  rw [rounds_succ]
  go_wp2_with (first | (go_at_call 40; refine (St.little HH.out HS.out (k := 9) (by rw [HL.out]; decide)).mono ?_; rintro e W_ ⟨rfl, hst⟩; have n0_ := Aside0.mk hst; clear hst HS cI cO fO; have HS := n0_; clear n0_; have cI := HS.out.cellI; have cO := HS.out.cellD; have fO := HS.out.freeO) | ((with_reducible refine gate_store (t := 30) (p := 20) rfl ?_); refine store_event (t := 30) (p := 20) (v := ?vo19) (w1 := ?w119) ?hg19 ?ho19 ?hn19 ?hr19 ?_; (case ho19 => rfl); (case hg19 => rfl); (case hn19 => rfl); (case hr19 => (go_simp;rfl)); intro W_ hw; have n0_ := Aside0.mk (HS.out.put hw); clear hw HS cI cO fO; have HS := n0_; clear n0_; have cI := HS.out.cellI; have cO := HS.out.cellD; have fO := HS.out.freeO) | ((with_reducible refine gate_store (t := 30) (p := 26) rfl ?_); refine store_event (t := 30) (p := 26) (v := ?vo20) (w1 := ?w120) ?hg20 ?ho20 ?hn20 ?hr20 ?_; (case ho20 => rfl); (case hg20 => rfl); (case hn20 => rfl); (case hr20 => (go_simp;rfl)); intro W_ hw; have n0_ := Aside0.mk (HS.out.put hw); clear hw HS cI cO fO; have HS := n0_; clear n0_; have cI := HS.out.cellI; have cO := HS.out.cellD; have fO := HS.out.freeO) | (go_at_call 40; refine (St.little HH.out HS.out (k := 10) (by rw [HL.out]; decide)).mono ?_; rintro e W_ ⟨rfl, hst⟩; have n0_ := Aside0.mk hst; clear hst HS cI cO fO; have HS := n0_; clear n0_; have cI := HS.out.cellI; have cO := HS.out.cellD; have fO := HS.out.freeO))
  have wix_ : IntKind.i64.wrap 13 = 13 := by decide
  go_still_tail 10, (by kernel_rfl)
  clear wix_
  change wpList _ _ _ _ _ W_.drew
  have n0_ := Aside0.mk HS.out.drew
  clear HS cI cO fO
  generalize W_.drew = W_ at n0_ ⊢
  have HS := n0_
  clear n0_
  have cI := HS.out.cellI
  have cO := HS.out.cellD
  have fO := HS.out.freeO
  refine store_event (t := 30) (p := 38) (v := ?vo21) (w1 := ?w121) ?hg21 ?ho21 ?hn21 ?hr21 ?_
  (case ho21 => rfl)
  (case hg21 => rfl)
  (case hn21 => rfl)
  (case hr21 => (go_simp;rfl))
  intro W_ hw
  have n0_ := Aside0.mk (HS.out.put hw)
  clear hw HS cI cO fO
  have HS := n0_
  clear n0_
  have cI := HS.out.cellI
  have cO := HS.out.cellD
  have fO := HS.out.freeO
  go_wp2_with (first | ((with_reducible refine gate_store (t := 30) (p := 44) rfl ?_); refine store_event (t := 30) (p := 44) (v := ?vo22) (w1 := ?w122) ?hg22 ?ho22 ?hn22 ?hr22 ?_; (case ho22 => rfl); (case hg22 => rfl); (case hn22 => rfl); (case hr22 => (go_simp;rfl)); intro W_ hw; have n0_ := Aside0.mk (HS.out.put hw); clear hw HS cI cO fO; have HS := n0_; clear n0_; have cI := HS.out.cellI; have cO := HS.out.cellD; have fO := HS.out.freeO) | (go_at_call 40; refine (St.little HH.out HS.out (k := 11) (by rw [HL.out]; decide)).mono ?_; rintro e W_ ⟨rfl, hst⟩; have n0_ := Aside0.mk hst; clear hst HS cI cO fO; have HS := n0_; clear n0_; have cI := HS.out.cellI; have cO := HS.out.cellD; have fO := HS.out.freeO))
  have wix_ : IntKind.i64.wrap 14 = 14 := by decide
  go_still_tail 10, (by kernel_rfl)
  clear wix_
  change wpList _ _ _ _ _ W_.drew
  have n0_ := Aside0.mk HS.out.drew
  clear HS cI cO fO
  generalize W_.drew = W_ at n0_ ⊢
  have HS := n0_
  clear n0_
  have cI := HS.out.cellI
  have cO := HS.out.cellD
  have fO := HS.out.freeO
  refine store_event (t := 30) (p := 56) (v := ?vo23) (w1 := ?w123) ?hg23 ?ho23 ?hn23 ?hr23 ?_
  (case ho23 => rfl)
  (case hg23 => rfl)
  (case hn23 => rfl)
  (case hr23 => (go_simp;rfl))
  intro W_ hw
  have n0_ := Aside0.mk (HS.out.put hw)
  clear hw HS cI cO fO
  have HS := n0_
  clear n0_
  have cI := HS.out.cellI
  have cO := HS.out.cellD
  have fO := HS.out.freeO
  go_wp2_with (first | ((with_reducible refine gate_store (t := 30) (p := 62) rfl ?_); refine store_event (t := 30) (p := 62) (v := ?vo24) (w1 := ?w124) ?hg24 ?ho24 ?hn24 ?hr24 ?_; (case ho24 => rfl); (case hg24 => rfl); (case hn24 => rfl); (case hr24 => (go_simp;rfl)); intro W_ hw; have n0_ := Aside0.mk (HS.out.put hw); clear hw HS cI cO fO; have HS := n0_; clear n0_; have cI := HS.out.cellI; have cO := HS.out.cellD; have fO := HS.out.freeO))
  rw [rounds_succ]
  go_wp2_with (first | (go_at_call 40; refine (St.little HH.out HS.out (k := 12) (by rw [HL.out]; decide)).mono ?_; rintro e W_ ⟨rfl, hst⟩; have n0_ := Aside0.mk hst; clear hst HS cI cO fO; have HS := n0_; clear n0_; have cI := HS.out.cellI; have cO := HS.out.cellD; have fO := HS.out.freeO) | ((with_reducible refine gate_store (t := 30) (p := 20) rfl ?_); refine store_event (t := 30) (p := 20) (v := ?vo25) (w1 := ?w125) ?hg25 ?ho25 ?hn25 ?hr25 ?_; (case ho25 => rfl); (case hg25 => rfl); (case hn25 => rfl); (case hr25 => (go_simp;rfl)); intro W_ hw; have n0_ := Aside0.mk (HS.out.put hw); clear hw HS cI cO fO; have HS := n0_; clear n0_; have cI := HS.out.cellI; have cO := HS.out.cellD; have fO := HS.out.freeO) | ((with_reducible refine gate_store (t := 30) (p := 26) rfl ?_); refine store_event (t := 30) (p := 26) (v := ?vo26) (w1 := ?w126) ?hg26 ?ho26 ?hn26 ?hr26 ?_; (case ho26 => rfl); (case hg26 => rfl); (case hn26 => rfl); (case hr26 => (go_simp;rfl)); intro W_ hw; have n0_ := Aside0.mk (HS.out.put hw); clear hw HS cI cO fO; have HS := n0_; clear n0_; have cI := HS.out.cellI; have cO := HS.out.cellD; have fO := HS.out.freeO) | (go_at_call 40; refine (St.little HH.out HS.out (k := 13) (by rw [HL.out]; decide)).mono ?_; rintro e W_ ⟨rfl, hst⟩; have n0_ := Aside0.mk hst; clear hst HS cI cO fO; have HS := n0_; clear n0_; have cI := HS.out.cellI; have cO := HS.out.cellD; have fO := HS.out.freeO))
  have wix_ : IntKind.i64.wrap 17 = 17 := by decide
  go_still_tail 10, (by kernel_rfl)
  clear wix_
  change wpList _ _ _ _ _ W_.drew
  have n0_ := Aside0.mk HS.out.drew
  clear HS cI cO fO
  generalize W_.drew = W_ at n0_ ⊢
  have HS := n0_
  clear n0_
  have cI := HS.out.cellI
  have cO := HS.out.cellD
  have fO := HS.out.freeO
  refine store_event (t := 30) (p := 38) (v := ?vo27) (w1 := ?w127) ?hg27 ?ho27 ?hn27 ?hr27 ?_
  (case ho27 => rfl)
  (case hg27 => rfl)
  (case hn27 => rfl)
  (case hr27 => (go_simp;rfl))
  intro W_ hw
  have n0_ := Aside0.mk (HS.out.put hw)
  clear hw HS cI cO fO
  have HS := n0_
  clear n0_
  have cI := HS.out.cellI
  have cO := HS.out.cellD
  have fO := HS.out.freeO
  go_wp2_with (first | ((with_reducible refine gate_store (t := 30) (p := 44) rfl ?_); refine store_event (t := 30) (p := 44) (v := ?vo28) (w1 := ?w128) ?hg28 ?ho28 ?hn28 ?hr28 ?_; (case ho28 => rfl); (case hg28 => rfl); (case hn28 => rfl); (case hr28 => (go_simp;rfl)); intro W_ hw; have n0_ := Aside0.mk (HS.out.put hw); clear hw HS cI cO fO; have HS := n0_; clear n0_; have cI := HS.out.cellI; have cO := HS.out.cellD; have fO := HS.out.freeO) | (go_at_call 40; refine (St.little HH.out HS.out (k := 14) (by rw [HL.out]; decide)).mono ?_; rintro e W_ ⟨rfl, hst⟩; have n0_ := Aside0.mk hst; clear hst HS cI cO fO; have HS := n0_; clear n0_; have cI := HS.out.cellI; have cO := HS.out.cellD; have fO := HS.out.freeO))
  have wix_ : IntKind.i64.wrap 18 = 18 := by decide
  go_still_tail 10, (by kernel_rfl)
  clear wix_
  change wpList _ _ _ _ _ W_.drew
  have n0_ := Aside0.mk HS.out.drew
  clear HS cI cO fO
  generalize W_.drew = W_ at n0_ ⊢
  have HS := n0_
  clear n0_
  have cI := HS.out.cellI
  have cO := HS.out.cellD
  have fO := HS.out.freeO
  refine store_event (t := 30) (p := 56) (v := ?vo29) (w1 := ?w129) ?hg29 ?ho29 ?hn29 ?hr29 ?_
  (case ho29 => rfl)
  (case hg29 => rfl)
  (case hn29 => rfl)
  (case hr29 => (go_simp;rfl))
  intro W_ hw
  have n0_ := Aside0.mk (HS.out.put hw)
  clear hw HS cI cO fO
  have HS := n0_
  clear n0_
  have cI := HS.out.cellI
  have cO := HS.out.cellD
  have fO := HS.out.freeO
  go_wp2_with (first | ((with_reducible refine gate_store (t := 30) (p := 62) rfl ?_); refine store_event (t := 30) (p := 62) (v := ?vo30) (w1 := ?w130) ?hg30 ?ho30 ?hn30 ?hr30 ?_; (case ho30 => rfl); (case hg30 => rfl); (case hn30 => rfl); (case hr30 => (go_simp;rfl)); intro W_ hw; have n0_ := Aside0.mk (HS.out.put hw); clear hw HS cI cO fO; have HS := n0_; clear n0_; have cI := HS.out.cellI; have cO := HS.out.cellD; have fO := HS.out.freeO))
  rw [rounds_succ]
  go_wp2_with (first | (go_at_call 40; refine (St.little HH.out HS.out (k := 15) (by rw [HL.out]; decide)).mono ?_; rintro e W_ ⟨rfl, hst⟩; have n0_ := Aside0.mk hst; clear hst HS cI cO fO; have HS := n0_; clear n0_; have cI := HS.out.cellI; have cO := HS.out.cellD; have fO := HS.out.freeO) | ((with_reducible refine gate_store (t := 30) (p := 20) rfl ?_); refine store_event (t := 30) (p := 20) (v := ?vo31) (w1 := ?w131) ?hg31 ?ho31 ?hn31 ?hr31 ?_; (case ho31 => rfl); (case hg31 => rfl); (case hn31 => rfl); (case hr31 => (go_simp;rfl)); intro W_ hw; have n0_ := Aside0.mk (HS.out.put hw); clear hw HS cI cO fO; have HS := n0_; clear n0_; have cI := HS.out.cellI; have cO := HS.out.cellD; have fO := HS.out.freeO) | ((with_reducible refine gate_store (t := 30) (p := 26) rfl ?_); refine store_event (t := 30) (p := 26) (v := ?vo32) (w1 := ?w132) ?hg32 ?ho32 ?hn32 ?hr32 ?_; (case ho32 => rfl); (case hg32 => rfl); (case hn32 => rfl); (case hr32 => (go_simp;rfl)); intro W_ hw; have n0_ := Aside0.mk (HS.out.put hw); clear hw HS cI cO fO; have HS := n0_; clear n0_; have cI := HS.out.cellI; have cO := HS.out.cellD; have fO := HS.out.freeO) | (go_at_call 40; refine (St.little HH.out HS.out (k := 16) (by rw [HL.out]; decide)).mono ?_; rintro e W_ ⟨rfl, hst⟩; have n0_ := Aside0.mk hst; clear hst HS cI cO fO; have HS := n0_; clear n0_; have cI := HS.out.cellI; have cO := HS.out.cellD; have fO := HS.out.freeO))
  have wix_ : IntKind.i64.wrap 21 = 21 := by decide
  go_still_tail 10, (by kernel_rfl)
  clear wix_
  change wpList _ _ _ _ _ W_.drew
  have n0_ := Aside0.mk HS.out.drew
  clear HS cI cO fO
  generalize W_.drew = W_ at n0_ ⊢
  have HS := n0_
  clear n0_
  have cI := HS.out.cellI
  have cO := HS.out.cellD
  have fO := HS.out.freeO
  refine store_event (t := 30) (p := 38) (v := ?vo33) (w1 := ?w133) ?hg33 ?ho33 ?hn33 ?hr33 ?_
  (case ho33 => rfl)
  (case hg33 => rfl)
  (case hn33 => rfl)
  (case hr33 => (go_simp;rfl))
  intro W_ hw
  have n0_ := Aside0.mk (HS.out.put hw)
  clear hw HS cI cO fO
  have HS := n0_
  clear n0_
  have cI := HS.out.cellI
  have cO := HS.out.cellD
  have fO := HS.out.freeO
  go_wp2_with (first | ((with_reducible refine gate_store (t := 30) (p := 44) rfl ?_); refine store_event (t := 30) (p := 44) (v := ?vo34) (w1 := ?w134) ?hg34 ?ho34 ?hn34 ?hr34 ?_; (case ho34 => rfl); (case hg34 => rfl); (case hn34 => rfl); (case hr34 => (go_simp;rfl)); intro W_ hw; have n0_ := Aside0.mk (HS.out.put hw); clear hw HS cI cO fO; have HS := n0_; clear n0_; have cI := HS.out.cellI; have cO := HS.out.cellD; have fO := HS.out.freeO) | (go_at_call 40; refine (St.little HH.out HS.out (k := 17) (by rw [HL.out]; decide)).mono ?_; rintro e W_ ⟨rfl, hst⟩; have n0_ := Aside0.mk hst; clear hst HS cI cO fO; have HS := n0_; clear n0_; have cI := HS.out.cellI; have cO := HS.out.cellD; have fO := HS.out.freeO))
  have wix_ : IntKind.i64.wrap 22 = 22 := by decide
  go_still_tail 10, (by kernel_rfl)
  clear wix_
  change wpList _ _ _ _ _ W_.drew
  have n0_ := Aside0.mk HS.out.drew
  clear HS cI cO fO
  generalize W_.drew = W_ at n0_ ⊢
  have HS := n0_
  clear n0_
  have cI := HS.out.cellI
  have cO := HS.out.cellD
  have fO := HS.out.freeO
  refine store_event (t := 30) (p := 56) (v := ?vo35) (w1 := ?w135) ?hg35 ?ho35 ?hn35 ?hr35 ?_
  (case ho35 => rfl)
  (case hg35 => rfl)
  (case hn35 => rfl)
  (case hr35 => (go_simp;rfl))
  intro W_ hw
  have n0_ := Aside0.mk (HS.out.put hw)
  clear hw HS cI cO fO
  have HS := n0_
  clear n0_
  have cI := HS.out.cellI
  have cO := HS.out.cellD
  have fO := HS.out.freeO
  go_wp2_with (first | ((with_reducible refine gate_store (t := 30) (p := 62) rfl ?_); refine store_event (t := 30) (p := 62) (v := ?vo36) (w1 := ?w136) ?hg36 ?ho36 ?hn36 ?hr36 ?_; (case ho36 => rfl); (case hg36 => rfl); (case hn36 => rfl); (case hr36 => (go_simp;rfl)); intro W_ hw; have n0_ := Aside0.mk (HS.out.put hw); clear hw HS cI cO fO; have HS := n0_; clear n0_; have cI := HS.out.cellI; have cO := HS.out.cellD; have fO := HS.out.freeO))
  rw [rounds_succ]
  go_wp2_with (first | (go_at_call 40; refine (St.little HH.out HS.out (k := 18) (by rw [HL.out]; decide)).mono ?_; rintro e W_ ⟨rfl, hst⟩; have n0_ := Aside0.mk hst; clear hst HS cI cO fO; have HS := n0_; clear n0_; have cI := HS.out.cellI; have cO := HS.out.cellD; have fO := HS.out.freeO) | ((with_reducible refine gate_store (t := 30) (p := 20) rfl ?_); refine store_event (t := 30) (p := 20) (v := ?vo37) (w1 := ?w137) ?hg37 ?ho37 ?hn37 ?hr37 ?_; (case ho37 => rfl); (case hg37 => rfl); (case hn37 => rfl); (case hr37 => (go_simp;rfl)); intro W_ hw; have n0_ := Aside0.mk (HS.out.put hw); clear hw HS cI cO fO; have HS := n0_; clear n0_; have cI := HS.out.cellI; have cO := HS.out.cellD; have fO := HS.out.freeO) | ((with_reducible refine gate_store (t := 30) (p := 26) rfl ?_); refine store_event (t := 30) (p := 26) (v := ?vo38) (w1 := ?w138) ?hg38 ?ho38 ?hn38 ?hr38 ?_; (case ho38 => rfl); (case hg38 => rfl); (case hn38 => rfl); (case hr38 => (go_simp;rfl)); intro W_ hw; have n0_ := Aside0.mk (HS.out.put hw); clear hw HS cI cO fO; have HS := n0_; clear n0_; have cI := HS.out.cellI; have cO := HS.out.cellD; have fO := HS.out.freeO) | (go_at_call 40; refine (St.little HH.out HS.out (k := 19) (by rw [HL.out]; decide)).mono ?_; rintro e W_ ⟨rfl, hst⟩; have n0_ := Aside0.mk hst; clear hst HS cI cO fO; have HS := n0_; clear n0_; have cI := HS.out.cellI; have cO := HS.out.cellD; have fO := HS.out.freeO))
  have wix_ : IntKind.i64.wrap 25 = 25 := by decide
  go_still_tail 10, (by kernel_rfl)
  clear wix_
  change wpList _ _ _ _ _ W_.drew
  have n0_ := Aside0.mk HS.out.drew
  clear HS cI cO fO
  generalize W_.drew = W_ at n0_ ⊢
  have HS := n0_
  clear n0_
  have cI := HS.out.cellI
  have cO := HS.out.cellD
  have fO := HS.out.freeO
  refine store_event (t := 30) (p := 38) (v := ?vo39) (w1 := ?w139) ?hg39 ?ho39 ?hn39 ?hr39 ?_
  (case ho39 => rfl)
  (case hg39 => rfl)
  (case hn39 => rfl)
  (case hr39 => (go_simp;rfl))
  intro W_ hw
  have n0_ := Aside0.mk (HS.out.put hw)
  clear hw HS cI cO fO
  have HS := n0_
  clear n0_
  have cI := HS.out.cellI
  have cO := HS.out.cellD
  have fO := HS.out.freeO
  go_wp2_with (first | ((with_reducible refine gate_store (t := 30) (p := 44) rfl ?_); refine store_event (t := 30) (p := 44) (v := ?vo40) (w1 := ?w140) ?hg40 ?ho40 ?hn40 ?hr40 ?_; (case ho40 => rfl); (case hg40 => rfl); (case hn40 => rfl); (case hr40 => (go_simp;rfl)); intro W_ hw; have n0_ := Aside0.mk (HS.out.put hw); clear hw HS cI cO fO; have HS := n0_; clear n0_; have cI := HS.out.cellI; have cO := HS.out.cellD; have fO := HS.out.freeO) | (go_at_call 40; refine (St.little HH.out HS.out (k := 20) (by rw [HL.out]; decide)).mono ?_; rintro e W_ ⟨rfl, hst⟩; have n0_ := Aside0.mk hst; clear hst HS cI cO fO; have HS := n0_; clear n0_; have cI := HS.out.cellI; have cO := HS.out.cellD; have fO := HS.out.freeO))
  have wix_ : IntKind.i64.wrap 26 = 26 := by decide
  go_still_tail 10, (by kernel_rfl)
  clear wix_
  change wpList _ _ _ _ _ W_.drew
  have n0_ := Aside0.mk HS.out.drew
  clear HS cI cO fO
  generalize W_.drew = W_ at n0_ ⊢
  have HS := n0_
  clear n0_
  have cI := HS.out.cellI
  have cO := HS.out.cellD
  have fO := HS.out.freeO
  refine store_event (t := 30) (p := 56) (v := ?vo41) (w1 := ?w141) ?hg41 ?ho41 ?hn41 ?hr41 ?_
  (case ho41 => rfl)
  (case hg41 => rfl)
  (case hn41 => rfl)
  (case hr41 => (go_simp;rfl))
  intro W_ hw
  have n0_ := Aside0.mk (HS.out.put hw)
  clear hw HS cI cO fO
  have HS := n0_
  clear n0_
  have cI := HS.out.cellI
  have cO := HS.out.cellD
  have fO := HS.out.freeO
  go_wp2_with (first | ((with_reducible refine gate_store (t := 30) (p := 62) rfl ?_); refine store_event (t := 30) (p := 62) (v := ?vo42) (w1 := ?w142) ?hg42 ?ho42 ?hn42 ?hr42 ?_; (case ho42 => rfl); (case hg42 => rfl); (case hn42 => rfl); (case hr42 => (go_simp;rfl)); intro W_ hw; have n0_ := Aside0.mk (HS.out.put hw); clear hw HS cI cO fO; have HS := n0_; clear n0_; have cI := HS.out.cellI; have cO := HS.out.cellD; have fO := HS.out.freeO))
  rw [rounds_succ]
  go_wp2_with (first | (go_at_call 40; refine (St.little HH.out HS.out (k := 21) (by rw [HL.out]; decide)).mono ?_; rintro e W_ ⟨rfl, hst⟩; have n0_ := Aside0.mk hst; clear hst HS cI cO fO; have HS := n0_; clear n0_; have cI := HS.out.cellI; have cO := HS.out.cellD; have fO := HS.out.freeO) | ((with_reducible refine gate_store (t := 30) (p := 20) rfl ?_); refine store_event (t := 30) (p := 20) (v := ?vo43) (w1 := ?w143) ?hg43 ?ho43 ?hn43 ?hr43 ?_; (case ho43 => rfl); (case hg43 => rfl); (case hn43 => rfl); (case hr43 => (go_simp;rfl)); intro W_ hw; have n0_ := Aside0.mk (HS.out.put hw); clear hw HS cI cO fO; have HS := n0_; clear n0_; have cI := HS.out.cellI; have cO := HS.out.cellD; have fO := HS.out.freeO) | ((with_reducible refine gate_store (t := 30) (p := 26) rfl ?_); refine store_event (t := 30) (p := 26) (v := ?vo44) (w1 := ?w144) ?hg44 ?ho44 ?hn44 ?hr44 ?_; (case ho44 => rfl); (case hg44 => rfl); (case hn44 => rfl); (case hr44 => (go_simp;rfl)); intro W_ hw; have n0_ := Aside0.mk (HS.out.put hw); clear hw HS cI cO fO; have HS := n0_; clear n0_; have cI := HS.out.cellI; have cO := HS.out.cellD; have fO := HS.out.freeO) | (go_at_call 40; refine (St.little HH.out HS.out (k := 22) (by rw [HL.out]; decide)).mono ?_; rintro e W_ ⟨rfl, hst⟩; have n0_ := Aside0.mk hst; clear hst HS cI cO fO; have HS := n0_; clear n0_; have cI := HS.out.cellI; have cO := HS.out.cellD; have fO := HS.out.freeO))
  have wix_ : IntKind.i64.wrap 29 = 29 := by decide
  go_still_tail 10, (by kernel_rfl)
  clear wix_
  change wpList _ _ _ _ _ W_.drew
  have n0_ := Aside0.mk HS.out.drew
  clear HS cI cO fO
  generalize W_.drew = W_ at n0_ ⊢
  have HS := n0_
  clear n0_
  have cI := HS.out.cellI
  have cO := HS.out.cellD
  have fO := HS.out.freeO
  refine store_event (t := 30) (p := 38) (v := ?vo45) (w1 := ?w145) ?hg45 ?ho45 ?hn45 ?hr45 ?_
  (case ho45 => rfl)
  (case hg45 => rfl)
  (case hn45 => rfl)
  (case hr45 => (go_simp;rfl))
  intro W_ hw
  have n0_ := Aside0.mk (HS.out.put hw)
  clear hw HS cI cO fO
  have HS := n0_
  clear n0_
  have cI := HS.out.cellI
  have cO := HS.out.cellD
  have fO := HS.out.freeO
  go_wp2_with (first | ((with_reducible refine gate_store (t := 30) (p := 44) rfl ?_); refine store_event (t := 30) (p := 44) (v := ?vo46) (w1 := ?w146) ?hg46 ?ho46 ?hn46 ?hr46 ?_; (case ho46 => rfl); (case hg46 => rfl); (case hn46 => rfl); (case hr46 => (go_simp;rfl)); intro W_ hw; have n0_ := Aside0.mk (HS.out.put hw); clear hw HS cI cO fO; have HS := n0_; clear n0_; have cI := HS.out.cellI; have cO := HS.out.cellD; have fO := HS.out.freeO) | (go_at_call 40; refine (St.little HH.out HS.out (k := 23) (by rw [HL.out]; decide)).mono ?_; rintro e W_ ⟨rfl, hst⟩; have n0_ := Aside0.mk hst; clear hst HS cI cO fO; have HS := n0_; clear n0_; have cI := HS.out.cellI; have cO := HS.out.cellD; have fO := HS.out.freeO))
  have wix_ : IntKind.i64.wrap 30 = 30 := by decide
  go_still_tail 10, (by kernel_rfl)
  clear wix_
  change wpList _ _ _ _ _ W_.drew
  have n0_ := Aside0.mk HS.out.drew
  clear HS cI cO fO
  generalize W_.drew = W_ at n0_ ⊢
  have HS := n0_
  clear n0_
  have cI := HS.out.cellI
  have cO := HS.out.cellD
  have fO := HS.out.freeO
  refine store_event (t := 30) (p := 56) (v := ?vo47) (w1 := ?w147) ?hg47 ?ho47 ?hn47 ?hr47 ?_
  (case ho47 => rfl)
  (case hg47 => rfl)
  (case hn47 => rfl)
  (case hr47 => (go_simp;rfl))
  intro W_ hw
  have n0_ := Aside0.mk (HS.out.put hw)
  clear hw HS cI cO fO
  have HS := n0_
  clear n0_
  have cI := HS.out.cellI
  have cO := HS.out.cellD
  have fO := HS.out.freeO
  go_wp2_with (first | ((with_reducible refine gate_store (t := 30) (p := 62) rfl ?_); refine store_event (t := 30) (p := 62) (v := ?vo48) (w1 := ?w148) ?hg48 ?ho48 ?hn48 ?hr48 ?_; (case ho48 => rfl); (case hg48 => rfl); (case hn48 => rfl); (case hr48 => (go_simp;rfl)); intro W_ hw; have n0_ := Aside0.mk (HS.out.put hw); clear hw HS cI cO fO; have HS := n0_; clear n0_; have cI := HS.out.cellI; have cO := HS.out.cellD; have fO := HS.out.freeO))
  rw [rounds_succ]
  go_wp2_with fail
  refine bodyPost_end (results_none rfl _ _ _) rfl ?_
  have hrow := HS.out.row
  simp only [List.replicate, List.set] at hrow
  have hrow2 : W_.heap[O]? = some (.cells ((lit24 l).map (Value.int .u32)).toArray 30 (0, 0)) := by unfold lit24; exact hrow
  rw [lit24_is] at hrow2
  exact ⟨rfl, hrow2, HS.out.kept, HS.out.below⟩
end Go.Proofs.YtidcmpjcghbofaaDoor.Q
