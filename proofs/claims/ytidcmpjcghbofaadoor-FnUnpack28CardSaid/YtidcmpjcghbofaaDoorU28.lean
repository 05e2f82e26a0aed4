/- The walk of the unpacking of 28 bits: what is unpacked are the fields of the bytes' number. -/
import Derived.Test.YtidcmpjcghbofaaDoorUb
import Derived.Test.YtidcmpjcghbofaaDoorUf
import Derived.Recover
import Derived.Handy
import Derived.StillTailTactics
import Derived.Laws.CopyOwn
import Derived.Deep.RegionLaw
import Derived.Test.YtidcmpjcghbofaaDoorNum
namespace Go.Proofs.YtidcmpjcghbofaaDoor.Q
open Go.RowKit Go.Proofs.YtidcmpjcghbofaaDoorW.PrintWords Go.Proofs.YtidcmpjcghbofaaDoorW.PrintLast Go.Proofs.YtidcmpjcghbofaaDoorW.PrintMore
set_option linter.unusedVariables false
set_option linter.unusedSimpArgs false
def lit28 (l : List Int) : List Int := [((word l 0 : Nat) : Int) % 268435456, bits .or .u32 (((word l 0 : Nat) : Int) / 268435456) (IntKind.u32.wrap (((word l 1 : Nat) : Int).tmod 16777216 * 16)), bits .or .u32 (((word l 1 : Nat) : Int) / 16777216) (IntKind.u32.wrap (((word l 2 : Nat) : Int).tmod 1048576 * 256)), bits .or .u32 (((word l 2 : Nat) : Int) / 1048576) (IntKind.u32.wrap (((word l 3 : Nat) : Int).tmod 65536 * 4096)), bits .or .u32 (((word l 3 : Nat) : Int) / 65536) (IntKind.u32.wrap (((word l 4 : Nat) : Int).tmod 4096 * 65536)), bits .or .u32 (((word l 4 : Nat) : Int) / 4096) (IntKind.u32.wrap (((word l 5 : Nat) : Int).tmod 256 * 1048576)), bits .or .u32 (((word l 5 : Nat) : Int) / 256) (IntKind.u32.wrap (((word l 6 : Nat) : Int).tmod 16 * 16777216)), ((word l 6 : Nat) : Int) / 16, ((word l 7 : Nat) : Int) % 268435456, bits .or .u32 (((word l 7 : Nat) : Int) / 268435456) (IntKind.u32.wrap (((word l 8 : Nat) : Int).tmod 16777216 * 16)), bits .or .u32 (((word l 8 : Nat) : Int) / 16777216) (IntKind.u32.wrap (((word l 9 : Nat) : Int).tmod 1048576 * 256)), bits .or .u32 (((word l 9 : Nat) : Int) / 1048576) (IntKind.u32.wrap (((word l 10 : Nat) : Int).tmod 65536 * 4096)), bits .or .u32 (((word l 10 : Nat) : Int) / 65536) (IntKind.u32.wrap (((word l 11 : Nat) : Int).tmod 4096 * 65536)), bits .or .u32 (((word l 11 : Nat) : Int) / 4096) (IntKind.u32.wrap (((word l 12 : Nat) : Int).tmod 256 * 1048576)), bits .or .u32 (((word l 12 : Nat) : Int) / 256) (IntKind.u32.wrap (((word l 13 : Nat) : Int).tmod 16 * 16777216)), ((word l 13 : Nat) : Int) / 16, ((word l 14 : Nat) : Int) % 268435456, bits .or .u32 (((word l 14 : Nat) : Int) / 268435456) (IntKind.u32.wrap (((word l 15 : Nat) : Int).tmod 16777216 * 16)), bits .or .u32 (((word l 15 : Nat) : Int) / 16777216) (IntKind.u32.wrap (((word l 16 : Nat) : Int).tmod 1048576 * 256)), bits .or .u32 (((word l 16 : Nat) : Int) / 1048576) (IntKind.u32.wrap (((word l 17 : Nat) : Int).tmod 65536 * 4096)), bits .or .u32 (((word l 17 : Nat) : Int) / 65536) (IntKind.u32.wrap (((word l 18 : Nat) : Int).tmod 4096 * 65536)), bits .or .u32 (((word l 18 : Nat) : Int) / 4096) (IntKind.u32.wrap (((word l 19 : Nat) : Int).tmod 256 * 1048576)), bits .or .u32 (((word l 19 : Nat) : Int) / 256) (IntKind.u32.wrap (((word l 20 : Nat) : Int).tmod 16 * 16777216)), ((word l 20 : Nat) : Int) / 16, ((word l 21 : Nat) : Int) % 268435456, bits .or .u32 (((word l 21 : Nat) : Int) / 268435456) (IntKind.u32.wrap (((word l 22 : Nat) : Int).tmod 16777216 * 16)), bits .or .u32 (((word l 22 : Nat) : Int) / 16777216) (IntKind.u32.wrap (((word l 23 : Nat) : Int).tmod 1048576 * 256)), bits .or .u32 (((word l 23 : Nat) : Int) / 1048576) (IntKind.u32.wrap (((word l 24 : Nat) : Int).tmod 65536 * 4096)), bits .or .u32 (((word l 24 : Nat) : Int) / 65536) (IntKind.u32.wrap (((word l 25 : Nat) : Int).tmod 4096 * 65536)), bits .or .u32 (((word l 25 : Nat) : Int) / 4096) (IntKind.u32.wrap (((word l 26 : Nat) : Int).tmod 256 * 1048576)), bits .or .u32 (((word l 26 : Nat) : Int) / 256) (IntKind.u32.wrap (((word l 27 : Nat) : Int).tmod 16 * 16777216)), ((word l 27 : Nat) : Int) / 16]
theorem lit28_is (l : List Int) : lit28 l = fields l 28 :=
  cons_eq (fld_first l 28 0 0 (by decide) (by decide) 268435456 (by decide)) <|
  cons_eq (fld_over l 28 1 0 28 24 (by decide) (by decide) (by decide) (by decide) (by decide) 268435456 16777216 16 (by decide) (by decide) (by decide)) <|
  cons_eq (fld_over l 28 2 1 24 20 (by decide) (by decide) (by decide) (by decide) (by decide) 16777216 1048576 256 (by decide) (by decide) (by decide)) <|
  cons_eq (fld_over l 28 3 2 20 16 (by decide) (by decide) (by decide) (by decide) (by decide) 1048576 65536 4096 (by decide) (by decide) (by decide)) <|
  cons_eq (fld_over l 28 4 3 16 12 (by decide) (by decide) (by decide) (by decide) (by decide) 65536 4096 65536 (by decide) (by decide) (by decide)) <|
  cons_eq (fld_over l 28 5 4 12 8 (by decide) (by decide) (by decide) (by decide) (by decide) 4096 256 1048576 (by decide) (by decide) (by decide)) <|
  cons_eq (fld_over l 28 6 5 8 4 (by decide) (by decide) (by decide) (by decide) (by decide) 256 16 16777216 (by decide) (by decide) (by decide)) <|
  cons_eq (fld_top l 28 7 6 4 (by decide) (by decide) 16 (by decide)) <|
  cons_eq (fld_first l 28 8 7 (by decide) (by decide) 268435456 (by decide)) <|
  cons_eq (fld_over l 28 9 7 28 24 (by decide) (by decide) (by decide) (by decide) (by decide) 268435456 16777216 16 (by decide) (by decide) (by decide)) <|
  cons_eq (fld_over l 28 10 8 24 20 (by decide) (by decide) (by decide) (by decide) (by decide) 16777216 1048576 256 (by decide) (by decide) (by decide)) <|
  cons_eq (fld_over l 28 11 9 20 16 (by decide) (by decide) (by decide) (by decide) (by decide) 1048576 65536 4096 (by decide) (by decide) (by decide)) <|
  cons_eq (fld_over l 28 12 10 16 12 (by decide) (by decide) (by decide) (by decide) (by decide) 65536 4096 65536 (by decide) (by decide) (by decide)) <|
  cons_eq (fld_over l 28 13 11 12 8 (by decide) (by decide) (by decide) (by decide) (by decide) 4096 256 1048576 (by decide) (by decide) (by decide)) <|
  cons_eq (fld_over l 28 14 12 8 4 (by decide) (by decide) (by decide) (by decide) (by decide) 256 16 16777216 (by decide) (by decide) (by decide)) <|
  cons_eq (fld_top l 28 15 13 4 (by decide) (by decide) 16 (by decide)) <|
  cons_eq (fld_first l 28 16 14 (by decide) (by decide) 268435456 (by decide)) <|
  cons_eq (fld_over l 28 17 14 28 24 (by decide) (by decide) (by decide) (by decide) (by decide) 268435456 16777216 16 (by decide) (by decide) (by decide)) <|
  cons_eq (fld_over l 28 18 15 24 20 (by decide) (by decide) (by decide) (by decide) (by decide) 16777216 1048576 256 (by decide) (by decide) (by decide)) <|
  cons_eq (fld_over l 28 19 16 20 16 (by decide) (by decide) (by decide) (by decide) (by decide) 1048576 65536 4096 (by decide) (by decide) (by decide)) <|
  cons_eq (fld_over l 28 20 17 16 12 (by decide) (by decide) (by decide) (by decide) (by decide) 65536 4096 65536 (by decide) (by decide) (by decide)) <|
  cons_eq (fld_over l 28 21 18 12 8 (by decide) (by decide) (by decide) (by decide) (by decide) 4096 256 1048576 (by decide) (by decide) (by decide)) <|
  cons_eq (fld_over l 28 22 19 8 4 (by decide) (by decide) (by decide) (by decide) (by decide) 256 16 16777216 (by decide) (by decide) (by decide)) <|
  cons_eq (fld_top l 28 23 20 4 (by decide) (by decide) 16 (by decide)) <|
  cons_eq (fld_first l 28 24 21 (by decide) (by decide) 268435456 (by decide)) <|
  cons_eq (fld_over l 28 25 21 28 24 (by decide) (by decide) (by decide) (by decide) (by decide) 268435456 16777216 16 (by decide) (by decide) (by decide)) <|
  cons_eq (fld_over l 28 26 22 24 20 (by decide) (by decide) (by decide) (by decide) (by decide) 16777216 1048576 256 (by decide) (by decide) (by decide)) <|
  cons_eq (fld_over l 28 27 23 20 16 (by decide) (by decide) (by decide) (by decide) (by decide) 1048576 65536 4096 (by decide) (by decide) (by decide)) <|
  cons_eq (fld_over l 28 28 24 16 12 (by decide) (by decide) (by decide) (by decide) (by decide) 65536 4096 65536 (by decide) (by decide) (by decide)) <|
  cons_eq (fld_over l 28 29 25 12 8 (by decide) (by decide) (by decide) (by decide) (by decide) 4096 256 1048576 (by decide) (by decide) (by decide)) <|
  cons_eq (fld_over l 28 30 26 8 4 (by decide) (by decide) (by decide) (by decide) (by decide) 256 16 16777216 (by decide) (by decide) (by decide)) <|
  cons_eq (fld_top l 28 31 27 4 (by decide) (by decide) 16 (by decide)) <| rfl
set_option maxHeartbeats 16000000 in
set_option maxRecDepth 100000 in
theorem unpack28_32.calls (R O : Nat) (ad : Addr) (c : Nat) (q : Int) (l : List Int) (w : World) (hl : l.length = 112) (H : Src w R O ad c l)
    (hR : w.heap[R]? = some (.cells #[.slice (some ad) l.length c, .int .i64 0, .int .i64 q] 43 (0, 0)))
    (hO : w.heap[O]? = some (.cells ((List.replicate 32 (0 : Int)).map (Value.int .u32)).toArray 30 (0, 0))) (hne : R ≠ O) :
    Calls Tryd.prog 36 #[.iface 34 (.pointer (some ⟨R, 0, none⟩)), .slice (some ⟨O, 0, none⟩) 32 32] w fun e w' => e = .returned (.tuple #[]) ∧
      w'.heap[O]? = some (.cells ((fields l 28).map (Value.int .u32)).toArray 30 (0, 0)) ∧ Kept w w' (fun k => k = R ∨ k = O) ∧ Below (min R O) w w' := by
  have HS := Aside0.mk (St.start hR hO hne (by simp))
  have HH := Aside0.mk H
  have HL := Aside0.mk hl
  have cI := HS.out.cellI
  have cO := HS.out.cellD
  have fO := HS.out.freeO
  clear H hR hO hl
  go_enter Tryd.func36, Tryd.ntmps36
  go_wp2_with fail
  refine wp_loop_rounds 5 ?_
  rw [rounds_succ]
  go_wp2_with (first | (go_at_call 40; refine (St.little HH.out HS.out (k := 0) (by rw [HL.out]; decide)).mono ?_; rintro e W_ ⟨rfl, hst⟩; have n0_ := Aside0.mk hst; clear hst HS cI cO fO; have HS := n0_; clear n0_; have cI := HS.out.cellI; have cO := HS.out.cellD; have fO := HS.out.freeO) | ((with_reducible refine gate_store (t := 30) (p := 20) rfl ?_); refine store_event (t := 30) (p := 20) (v := ?vo1) (w1 := ?w11) ?hg1 ?ho1 ?hn1 ?hr1 ?_; (case ho1 => rfl); (case hg1 => rfl); (case hn1 => rfl); (case hr1 => (go_simp;rfl)); intro W_ hw; have n0_ := Aside0.mk (HS.out.put hw); clear hw HS cI cO fO; have HS := n0_; clear n0_; have cI := HS.out.cellI; have cO := HS.out.cellD; have fO := HS.out.freeO) | ((with_reducible refine gate_store (t := 30) (p := 26) rfl ?_); refine store_event (t := 30) (p := 26) (v := ?vo2) (w1 := ?w12) ?hg2 ?ho2 ?hn2 ?hr2 ?_; (case ho2 => rfl); (case hg2 => rfl); (case hn2 => rfl); (case hr2 => (go_simp;rfl)); intro W_ hw; have n0_ := Aside0.mk (HS.out.put hw); clear hw HS cI cO fO; have HS := n0_; clear n0_; have cI := HS.out.cellI; have cO := HS.out.cellD; have fO := HS.out.freeO) | (go_at_call 40; refine (St.little HH.out HS.out (k := 1) (by rw [HL.out]; decide)).mono ?_; rintro e W_ ⟨rfl, hst⟩; have n0_ := Aside0.mk hst; clear hst HS cI cO fO; have HS := n0_; clear n0_; have cI := HS.out.cellI; have cO := HS.out.cellD; have fO := HS.out.freeO))
  have wix_ : IntKind.i64.wrap 1 = 1 := by decide
  go_still_tail 10, (by kernel_rfl)
  clear wix_
  change wpList _ _ _ _ _ W_.drew
  have n0_ := Aside0.mk HS.out.drew
  clear HS cI cO fO
  generalize W_.drew = W_ at n0_ ⊢
  have HS := n0_
  clear n0_
  have cI := HS.out.cellI
  have cO := HS.out.cellD
  have fO := HS.out.freeO
  refine store_event (t := 30) (p := 38) (v := ?vo3) (w1 := ?w13) ?hg3 ?ho3 ?hn3 ?hr3 ?_
  (case ho3 => rfl)
  (case hg3 => rfl)
  (case hn3 => rfl)
  (case hr3 => (go_simp;rfl))
  intro W_ hw
  have n0_ := Aside0.mk (HS.out.put hw)
  clear hw HS cI cO fO
  have HS := n0_
  clear n0_
  have cI := HS.out.cellI
  have cO := HS.out.cellD
  have fO := HS.out.freeO
  go_wp2_with (first | ((with_reducible refine gate_store (t := 30) (p := 44) rfl ?_); refine store_event (t := 30) (p := 44) (v := ?vo4) (w1 := ?w14) ?hg4 ?ho4 ?hn4 ?hr4 ?_; (case ho4 => rfl); (case hg4 => rfl); (case hn4 => rfl); (case hr4 => (go_simp;rfl)); intro W_ hw; have n0_ := Aside0.mk (HS.out.put hw); clear hw HS cI cO fO; have HS := n0_; clear n0_; have cI := HS.out.cellI; have cO := HS.out.cellD; have fO := HS.out.freeO) | (go_at_call 40; refine (St.little HH.out HS.out (k := 2) (by rw [HL.out]; decide)).mono ?_; rintro e W_ ⟨rfl, hst⟩; have n0_ := Aside0.mk hst; clear hst HS cI cO fO; have HS := n0_; clear n0_; have cI := HS.out.cellI; have cO := HS.out.cellD; have fO := HS.out.freeO))
  have wix_ : IntKind.i64.wrap 2 = 2 := by decide
  go_still_tail 10, (by kernel_rfl)
  clear wix_
  change wpList _ _ _ _ _ W_.drew
  have n0_ := Aside0.mk HS.out.drew
  clear HS cI cO fO
  generalize W_.drew = W_ at n0_ ⊢
  have HS := n0_
  clear n0_
  have cI := HS.out.cellI
  have cO := HS.out.cellD
  have fO := HS.out.freeO
  refine store_event (t := 30) (p := 56) (v := ?vo5) (w1 := ?w15) ?hg5 ?ho5 ?hn5 ?hr5 ?_
  (case ho5 => rfl)
  (case hg5 => rfl)
  (case hn5 => rfl)
  (case hr5 => (go_simp;rfl))
  intro W_ hw
  have n0_ := Aside0.mk (HS.out.put hw)
  clear hw HS cI cO fO
  have HS := n0_
  clear n0_
  have cI := HS.out.cellI
  have cO := HS.out.cellD
  have fO := HS.out.freeO
  go_wp2_with (first | ((with_reducible refine gate_store (t := 30) (p := 62) rfl ?_); refine store_event (t := 30) (p := 62) (v := ?vo6) (w1 := ?w16) ?hg6 ?ho6 ?hn6 ?hr6 ?_; (case ho6 => rfl); (case hg6 => rfl); (case hn6 => rfl); (case hr6 => (go_simp;rfl)); intro W_ hw; have n0_ := Aside0.mk (HS.out.put hw); clear hw HS cI cO fO; have HS := n0_; clear n0_; have cI := HS.out.cellI; have cO := HS.out.cellD; have fO := HS.out.freeO) | (go_at_call 40; refine (St.little HH.out HS.out (k := 3) (by rw [HL.out]; decide)).mono ?_; rintro e W_ ⟨rfl, hst⟩; have n0_ := Aside0.mk hst; clear hst HS cI cO fO; have HS := n0_; clear n0_; have cI := HS.out.cellI; have cO := HS.out.cellD; have fO := HS.out.freeO))
  have wix_ : IntKind.i64.wrap 3 = 3 := by decide
  go_still_tail 10, (by kernel_rfl)
  clear wix_
  change wpList _ _ _ _ _ W_.drew
  have n0_ := Aside0.mk HS.out.drew
  clear HS cI cO fO
  generalize W_.drew = W_ at n0_ ⊢
  have HS := n0_
  clear n0_
  have cI := HS.out.cellI
  have cO := HS.out.cellD
  have fO := HS.out.freeO
  refine store_event (t := 30) (p := 74) (v := ?vo7) (w1 := ?w17) ?hg7 ?ho7 ?hn7 ?hr7 ?_
  (case ho7 => rfl)
  (case hg7 => rfl)
  (case hn7 => rfl)
  (case hr7 => (go_simp;rfl))
  intro W_ hw
  have n0_ := Aside0.mk (HS.out.put hw)
  clear hw HS cI cO fO
  have HS := n0_
  clear n0_
  have cI := HS.out.cellI
  have cO := HS.out.cellD
  have fO := HS.out.freeO
  go_wp2_with (first | ((with_reducible refine gate_store (t := 30) (p := 80) rfl ?_); refine store_event (t := 30) (p := 80) (v := ?vo8) (w1 := ?w18) ?hg8 ?ho8 ?hn8 ?hr8 ?_; (case ho8 => rfl); (case hg8 => rfl); (case hn8 => rfl); (case hr8 => (go_simp;rfl)); intro W_ hw; have n0_ := Aside0.mk (HS.out.put hw); clear hw HS cI cO fO; have HS := n0_; clear n0_; have cI := HS.out.cellI; have cO := HS.out.cellD; have fO := HS.out.freeO) | (go_at_call 40; refine (St.little HH.out HS.out (k := 4) (by rw [HL.out]; decide)).mono ?_; rintro e W_ ⟨rfl, hst⟩; have n0_ := Aside0.mk hst; clear hst HS cI cO fO; have HS := n0_; clear n0_; have cI := HS.out.cellI; have cO := HS.out.cellD; have fO := HS.out.freeO))
  have wix_ : IntKind.i64.wrap 4 = 4 := by decide
  go_still_tail 10, (by kernel_rfl)
  clear wix_
  change wpList _ _ _ _ _ W_.drew
  have n0_ := Aside0.mk HS.out.drew
  clear HS cI cO fO
  generalize W_.drew = W_ at n0_ ⊢
  have HS := n0_
  clear n0_
  have cI := HS.out.cellI
  have cO := HS.out.cellD
  have fO := HS.out.freeO
  refine store_event (t := 30) (p := 92) (v := ?vo9) (w1 := ?w19) ?hg9 ?ho9 ?hn9 ?hr9 ?_
  (case ho9 => rfl)
  (case hg9 => rfl)
  (case hn9 => rfl)
  (case hr9 => (go_simp;rfl))
  intro W_ hw
  have n0_ := Aside0.mk (HS.out.put hw)
  clear hw HS cI cO fO
  have HS := n0_
  clear n0_
  have cI := HS.out.cellI
  have cO := HS.out.cellD
  have fO := HS.out.freeO
  go_wp2_with (first | ((with_reducible refine gate_store (t := 30) (p := 98) rfl ?_); refine store_event (t := 30) (p := 98) (v := ?vo10) (w1 := ?w110) ?hg10 ?ho10 ?hn10 ?hr10 ?_; (case ho10 => rfl); (case hg10 => rfl); (case hn10 => rfl); (case hr10 => (go_simp;rfl)); intro W_ hw; have n0_ := Aside0.mk (HS.out.put hw); clear hw HS cI cO fO; have HS := n0_; clear n0_; have cI := HS.out.cellI; have cO := HS.out.cellD; have fO := HS.out.freeO) | (go_at_call 40; refine (St.little HH.out HS.out (k := 5) (by rw [HL.out]; decide)).mono ?_; rintro e W_ ⟨rfl, hst⟩; have n0_ := Aside0.mk hst; clear hst HS cI cO fO; have HS := n0_; clear n0_; have cI := HS.out.cellI; have cO := HS.out.cellD; have fO := HS.out.freeO))
  have wix_ : IntKind.i64.wrap 5 = 5 := by decide
  go_still_tail 10, (by kernel_rfl)
  clear wix_
  change wpList _ _ _ _ _ W_.drew
  have n0_ := Aside0.mk HS.out.drew
  clear HS cI cO fO
  generalize W_.drew = W_ at n0_ ⊢
  have HS := n0_
  clear n0_
  have cI := HS.out.cellI
  have cO := HS.out.cellD
  have fO := HS.out.freeO
  refine store_event (t := 30) (p := 110) (v := ?vo11) (w1 := ?w111) ?hg11 ?ho11 ?hn11 ?hr11 ?_
  (case ho11 => rfl)
  (case hg11 => rfl)
  (case hn11 => rfl)
  (case hr11 => (go_simp;rfl))
  intro W_ hw
  have n0_ := Aside0.mk (HS.out.put hw)
  clear hw HS cI cO fO
  have HS := n0_
  clear n0_
  have cI := HS.out.cellI
  have cO := HS.out.cellD
  have fO := HS.out.freeO
  go_wp2_with (first | ((with_reducible refine gate_store (t := 30) (p := 116) rfl ?_); refine store_event (t := 30) (p := 116) (v := ?vo12) (w1 := ?w112) ?hg12 ?ho12 ?hn12 ?hr12 ?_; (case ho12 => rfl); (case hg12 => rfl); (case hn12 => rfl); (case hr12 => (go_simp;rfl)); intro W_ hw; have n0_ := Aside0.mk (HS.out.put hw); clear hw HS cI cO fO; have HS := n0_; clear n0_; have cI := HS.out.cellI; have cO := HS.out.cellD; have fO := HS.out.freeO) | (go_at_call 40; refine (St.little HH.out HS.out (k := 6) (by rw [HL.out]; decide)).mono ?_; rintro e W_ ⟨rfl, hst⟩; have n0_ := Aside0.mk hst; clear hst HS cI cO fO; have HS := n0_; clear n0_; have cI := HS.out.cellI; have cO := HS.out.cellD; have fO := HS.out.freeO))
  have wix_ : IntKind.i64.wrap 6 = 6 := by decide
  go_still_tail 10, (by kernel_rfl)
  clear wix_
  change wpList _ _ _ _ _ W_.drew
  have n0_ := Aside0.mk HS.out.drew
  clear HS cI cO fO
  generalize W_.drew = W_ at n0_ ⊢
  have HS := n0_
  clear n0_
  have cI := HS.out.cellI
  have cO := HS.out.cellD
  have fO := HS.out.freeO
  refine store_event (t := 30) (p := 128) (v := ?vo13) (w1 := ?w113) ?hg13 ?ho13 ?hn13 ?hr13 ?_
  (case ho13 => rfl)
  (case hg13 => rfl)
  (case hn13 => rfl)
  (case hr13 => (go_simp;rfl))
  intro W_ hw
  have n0_ := Aside0.mk (HS.out.put hw)
  clear hw HS cI cO fO
  have HS := n0_
  clear n0_
  have cI := HS.out.cellI
  have cO := HS.out.cellD
  have fO := HS.out.freeO
  go_wp2_with (first | ((with_reducible refine gate_store (t := 30) (p := 134) rfl ?_); refine store_event (t := 30) (p := 134) (v := ?vo14) (w1 := ?w114) ?hg14 ?ho14 ?hn14 ?hr14 ?_; (case ho14 => rfl); (case hg14 => rfl); (case hn14 => rfl); (case hr14 => (go_simp;rfl)); intro W_ hw; have n0_ := Aside0.mk (HS.out.put hw); clear hw HS cI cO fO; have HS := n0_; clear n0_; have cI := HS.out.cellI; have cO := HS.out.cellD; have fO := HS.out.freeO))
  rw [rounds_succ]
  go_wp2_with (first | (go_at_call 40; refine (St.little HH.out HS.out (k := 7) (by rw [HL.out]; decide)).mono ?_; rintro e W_ ⟨rfl, hst⟩; have n0_ := Aside0.mk hst; clear hst HS cI cO fO; have HS := n0_; clear n0_; have cI := HS.out.cellI; have cO := HS.out.cellD; have fO := HS.out.freeO) | ((with_reducible refine gate_store (t := 30) (p := 20) rfl ?_); refine store_event (t := 30) (p := 20) (v := ?vo15) (w1 := ?w115) ?hg15 ?ho15 ?hn15 ?hr15 ?_; (case ho15 => rfl); (case hg15 => rfl); (case hn15 => rfl); (case hr15 => (go_simp;rfl)); intro W_ hw; have n0_ := Aside0.mk (HS.out.put hw); clear hw HS cI cO fO; have HS := n0_; clear n0_; have cI := HS.out.cellI; have cO := HS.out.cellD; have fO := HS.out.freeO) | ((with_reducible refine gate_store (t := 30) (p := 26) rfl ?_); refine store_event (t := 30) (p := 26) (v := ?vo16) (w1 := ?w116) ?hg16 ?ho16 ?hn16 ?hr16 ?_; (case ho16 => rfl); (case hg16 => rfl); (case hn16 => rfl); (case hr16 => (go_simp;rfl)); intro W_ hw; have n0_ := Aside0.mk (HS.out.put hw); clear hw HS cI cO fO; have HS := n0_; clear n0_; have cI := HS.out.cellI; have cO := HS.out.cellD; have fO := HS.out.freeO) | (go_at_call 40; refine (St.little HH.out HS.out (k := 8) (by rw [HL.out]; decide)).mono ?_; rintro e W_ ⟨rfl, hst⟩; have n0_ := Aside0.mk hst; clear hst HS cI cO fO; have HS := n0_; clear n0_; have cI := HS.out.cellI; have cO := HS.out.cellD; have fO := HS.out.freeO))
  have wix_ : IntKind.i64.wrap 9 = 9 := by decide
  go_still_tail 10, (by kernel_rfl)
  clear wix_
  change wpList _ _ _ _ _ W_.drew
  have n0_ := Aside0.mk HS.out.drew
  clear HS cI cO fO
  generalize W_.drew = W_ at n0_ ⊢
  have HS := n0_
  clear n0_
  have cI := HS.out.cellI
  have cO := HS.out.cellD
  have fO := HS.out.freeO
  refine store_event (t := 30) (p := 38) (v := ?vo17) (w1 := ?w117) ?hg17 ?ho17 ?hn17 ?hr17 ?_
  (case ho17 => rfl)
  (case hg17 => rfl)
  (case hn17 => rfl)
  (case hr17 => (go_simp;rfl))
  intro W_ hw
  have n0_ := Aside0.mk (HS.out.put hw)
  clear hw HS cI cO fO
  have HS := n0_
  clear n0_
  have cI := HS.out.cellI
  have cO := HS.out.cellD
  have fO := HS.out.freeO
  go_wp2_with (first | ((with_reducible refine gate_store (t := 30) (p := 44) rfl ?_); refine store_event (t := 30) (p := 44) (v := ?vo18) (w1 := ?w118) ?hg18 ?ho18 ?hn18 ?hr18 ?_; (case ho18 => rfl); (case hg18 => rfl); (case hn18 => rfl); (case hr18 => (go_simp;rfl)); intro W_ hw; have n0_ := Aside0.mk (HS.out.put hw); clear hw HS cI cO fO; have HS := n0_; clear n0_; have cI := HS.out.cellI; have cO := HS.out.cellD; have fO := HS.out.freeO) | (go_at_call 40; refine (St.little HH.out HS.out (k := 9) (by rw [HL.out]; decide)).mono ?_; rintro e W_ ⟨rfl, hst⟩; have n0_ := Aside0.mk hst; clear hst HS cI cO fO; have HS := n0_; clear n0_; have cI := HS.out.cellI; have cO := HS.out.cellD; have fO := HS.out.freeO))
  have wix_ : IntKind.i64.wrap 10 = 10 := by decide
  go_still_tail 10, (by kernel_rfl)
  clear wix_
  change wpList _ _ _ _ _ W_.drew
  have n0_ := Aside0.mk HS.out.drew
  clear HS cI cO fO
  generalize W_.drew = W_ at n0_ ⊢
  have HS := n0_
  clear n0_
  have cI := HS.out.cellI
  have cO := HS.out.cellD
  have fO := HS.out.freeO
  refine store_event (t := 30) (p := 56) (v := ?vo19) (w1 := ?w119) ?hg19 ?ho19 ?hn19 ?hr19 ?_
  (case ho19 => rfl)
  (case hg19 => rfl)
  (case hn19 => rfl)
  (case hr19 => (go_simp;rfl))
  intro W_ hw
  have n0_ := Aside0.mk (HS.out.put hw)
  clear hw HS cI cO fO
  have HS := n0_
  clear n0_
  have cI := HS.out.cellI
  have cO := HS.out.cellD
  have fO := HS.out.freeO
  go_wp2_with (first | ((with_reducible refine gate_store (t := 30) (p := 62) rfl ?_); refine store_event (t := 30) (p := 62) (v := ?vo20) (w1 := ?w120) ?hg20 ?ho20 ?hn20 ?hr20 ?_; (case ho20 => rfl); (case hg20 => rfl); (case hn20 => rfl); (case hr20 => (go_simp;rfl)); intro W_ hw; have n0_ := Aside0.mk (HS.out.put hw); clear hw HS cI cO fO; have HS := n0_; clear n0_; have cI := HS.out.cellI; have cO := HS.out.cellD; have fO := HS.out.freeO) | (go_at_call 40; refine (St.little HH.out HS.out (k := 10) (by rw [HL.out]; decide)).mono ?_; rintro e W_ ⟨rfl, hst⟩; have n0_ := Aside0.mk hst; clear hst HS cI cO fO; have HS := n0_; clear n0_; have cI := HS.out.cellI; have cO := HS.out.cellD; have fO := HS.out.freeO))
  have wix_ : IntKind.i64.wrap 11 = 11 := by decide
  go_still_tail 10, (by kernel_rfl)
  clear wix_
  change wpList _ _ _ _ _ W_.drew
  have n0_ := Aside0.mk HS.out.drew
  clear HS cI cO fO
  generalize W_.drew = W_ at n0_ ⊢
  have HS := n0_
  clear n0_
  have cI := HS.out.cellI
  have cO := HS.out.cellD
  have fO := HS.out.freeO
  refine store_event (t := 30) (p := 74) (v := ?vo21) (w1 := ?w121) ?hg21 ?ho21 ?hn21 ?hr21 ?_
  (case ho21 => rfl)
  (case hg21 => rfl)
  (case hn21 => rfl)
  (case hr21 => (go_simp;rfl))
  intro W_ hw
  have n0_ := Aside0.mk (HS.out.put hw)
  clear hw HS cI cO fO
  have HS := n0_
  clear n0_
  have cI := HS.out.cellI
  have cO := HS.out.cellD
  have fO := HS.out.freeO
  go_wp2_with (first | ((with_reducible refine gate_store (t := 30) (p := 80) rfl ?_); refine store_event (t := 30) (p := 80) (v := ?vo22) (w1 := ?w122) ?hg22 ?ho22 ?hn22 ?hr22 ?_; (case ho22 => rfl); (case hg22 => rfl); (case hn22 => rfl); (case hr22 => (go_simp;rfl)); intro W_ hw; have n0_ := Aside0.mk (HS.out.put hw); clear hw HS cI cO fO; have HS := n0_; clear n0_; have cI := HS.out.cellI; have cO := HS.out.cellD; have fO := HS.out.freeO) | (go_at_call 40; refine (St.little HH.out HS.out (k := 11) (by rw [HL.out]; decide)).mono ?_; rintro e W_ ⟨rfl, hst⟩; have n0_ := Aside0.mk hst; clear hst HS cI cO fO; have HS := n0_; clear n0_; have cI := HS.out.cellI; have cO := HS.out.cellD; have fO := HS.out.freeO))
  have wix_ : IntKind.i64.wrap 12 = 12 := by decide
  go_still_tail 10, (by kernel_rfl)
  clear wix_
  change wpList _ _ _ _ _ W_.drew
  have n0_ := Aside0.mk HS.out.drew
  clear HS cI cO fO
  generalize W_.drew = W_ at n0_ ⊢
  have HS := n0_
  clear n0_
  have cI := HS.out.cellI
  have cO := HS.out.cellD
  have fO := HS.out.freeO
  refine store_event (t := 30) (p := 92) (v := ?vo23) (w1 := ?w123) ?hg23 ?ho23 ?hn23 ?hr23 ?_
  (case ho23 => rfl)
  (case hg23 => rfl)
  (case hn23 => rfl)
  (case hr23 => (go_simp;rfl))
  intro W_ hw
  have n0_ := Aside0.mk (HS.out.put hw)
  clear hw HS cI cO fO
  have HS := n0_
  clear n0_
  have cI := HS.out.cellI
  have cO := HS.out.cellD
  have fO := HS.out.freeO
  go_wp2_with (first | ((with_reducible refine gate_store (t := 30) (p := 98) rfl ?_); refine store_event (t := 30) (p := 98) (v := ?vo24) (w1 := ?w124) ?hg24 ?ho24 ?hn24 ?hr24 ?_; (case ho24 => rfl); (case hg24 => rfl); (case hn24 => rfl); (case hr24 => (go_simp;rfl)); intro W_ hw; have n0_ := Aside0.mk (HS.out.put hw); clear hw HS cI cO fO; have HS := n0_; clear n0_; have cI := HS.out.cellI; have cO := HS.out.cellD; have fO := HS.out.freeO) | (go_at_call 40; refine (St.little HH.out HS.out (k := 12) (by rw [HL.out]; decide)).mono ?_; rintro e W_ ⟨rfl, hst⟩; have n0_ := Aside0.mk hst; clear hst HS cI cO fO; have HS := n0_; clear n0_; have cI := HS.out.cellI; have cO := HS.out.cellD; have fO := HS.out.freeO))
  have wix_ : IntKind.i64.wrap 13 = 13 := by decide
  go_still_tail 10, (by kernel_rfl)
  clear wix_
  change wpList _ _ _ _ _ W_.drew
  have n0_ := Aside0.mk HS.out.drew
  clear HS cI cO fO
  generalize W_.drew = W_ at n0_ ⊢
  have HS := n0_
  clear n0_
  have cI := HS.out.cellI
  have cO := HS.out.cellD
  have fO := HS.out.freeO
  refine store_event (t := 30) (p := 110) (v := ?vo25) (w1 := ?w125) ?hg25 ?ho25 ?hn25 ?hr25 ?_
  (case ho25 => rfl)
  (case hg25 => rfl)
  (case hn25 => rfl)
  (case hr25 => (go_simp;rfl))
  intro W_ hw
  have n0_ := Aside0.mk (HS.out.put hw)
  clear hw HS cI cO fO
  have HS := n0_
  clear n0_
  have cI := HS.out.cellI
  have cO := HS.out.cellD
  have fO := HS.out.freeO
  go_wp2_with (first | ((with_reducible refine gate_store (t := 30) (p := 116) rfl ?_); refine store_event (t := 30) (p := 116) (v := ?vo26) (w1 := ?w126) ?hg26 ?ho26 ?hn26 ?hr26 ?_; (case ho26 => rfl); (case hg26 => rfl); (case hn26 => rfl); (case hr26 => (go_simp;rfl)); intro W_ hw; have n0_ := Aside0.mk (HS.out.put hw); clear hw HS cI cO fO; have HS := n0_; clear n0_; have cI := HS.out.cellI; have cO := HS.out.cellD; have fO := HS.out.freeO) | (go_at_call 40; refine (St.little HH.out HS.out (k := 13) (by rw [HL.out]; decide)).mono ?_; rintro e W_ ⟨rfl, hst⟩; have n0_ := Aside0.mk hst; clear hst HS cI cO fO; have HS := n0_; clear n0_; have cI := HS.out.cellI; have cO := HS.out.cellD; have fO := HS.out.freeO))
  have wix_ : IntKind.i64.wrap 14 = 14 := by decide
  go_still_tail 10, (by kernel_rfl)
  clear wix_
  change wpList _ _ _ _ _ W_.drew
  have n0_ := Aside0.mk HS.out.drew
  clear HS cI cO fO
  generalize W_.drew = W_ at n0_ ⊢
  have HS := n0_
  clear n0_
  have cI := HS.out.cellI
  have cO := HS.out.cellD
  have fO := HS.out.freeO
  refine store_event (t := 30) (p := 128) (v := ?vo27) (w1 := ?w127) ?hg27 ?ho27 ?hn27 ?hr27 ?_
  (case ho27 => rfl)
  (case hg27 => rfl)
  (case hn27 => rfl)
  (case hr27 => (go_simp;rfl))
  intro W_ hw
  have n0_ := Aside0.mk (HS.out.put hw)
  clear hw HS cI cO fO
  have HS := n0_
  clear n0_
  have cI := HS.out.cellI
  have cO := HS.out.cellD
  have fO := HS.out.freeO
  go_wp2_with (first | ((with_reducible refine gate_store (t := 30) (p := 134) rfl ?_); refine store_event (t := 30) (p := 134) (v := ?vo28) (w1 := ?w128) ?hg28 ?ho28 ?hn28 ?hr28 ?_; (case ho28 => rfl); (case hg28 => rfl); (case hn28 => rfl); (case hr28 => (go_simp;rfl)); intro W_ hw; have n0_ := Aside0.mk (HS.out.put hw); clear hw HS cI cO fO; have HS := n0_; clear n0_; have cI := HS.out.cellI; have cO := HS.out.cellD; have fO := HS.out.freeO))
  rw [rounds_succ]
  go_wp2_with (first | (go_at_call 40; refine (St.little HH.out HS.out (k := 14) (by rw [HL.out]; decide)).mono ?_; rintro e W_ ⟨rfl, hst⟩; have n0_ := Aside0.mk hst; clear hst HS cI cO fO; have HS := n0_; clear n0_; have cI := HS.out.cellI; have cO := HS.out.cellD; have fO := HS.out.freeO) | ((with_reducible refine gate_store (t := 30) (p := 20) rfl ?_); refine store_event (t := 30) (p := 20) (v := ?vo29) (w1 := ?w129) ?hg29 ?ho29 ?hn29 ?hr29 ?_; (case ho29 => rfl); (case hg29 => rfl); (case hn29 => rfl); (case hr29 => (go_simp;rfl)); intro W_ hw; have n0_ := Aside0.mk (HS.out.put hw); clear hw HS cI cO fO; have HS := n0_; clear n0_; have cI := HS.out.cellI; have cO := HS.out.cellD; have fO := HS.out.freeO) | ((with_reducible refine gate_store (t := 30) (p := 26) rfl ?_); refine store_event (t := 30) (p := 26) (v := ?vo30) (w1 := ?w130) ?hg30 ?ho30 ?hn30 ?hr30 ?_; (case ho30 => rfl); (case hg30 => rfl); (case hn30 => rfl); (case hr30 => (go_simp;rfl)); intro W_ hw; have n0_ := Aside0.mk (HS.out.put hw); clear hw HS cI cO fO; have HS := n0_; clear n0_; have cI := HS.out.cellI; have cO := HS.out.cellD; have fO := HS.out.freeO) | (go_at_call 40; refine (St.little HH.out HS.out (k := 15) (by rw [HL.out]; decide)).mono ?_; rintro e W_ ⟨rfl, hst⟩; have n0_ := Aside0.mk hst; clear hst HS cI cO fO; have HS := n0_; clear n0_; have cI := HS.out.cellI; have cO := HS.out.cellD; have fO := HS.out.freeO))
  have wix_ : IntKind.i64.wrap 17 = 17 := by decide
  go_still_tail 10, (by kernel_rfl)
  clear wix_
  change wpList _ _ _ _ _ W_.drew
  have n0_ := Aside0.mk HS.out.drew
  clear HS cI cO fO
  generalize W_.drew = W_ at n0_ ⊢
  have HS := n0_
  clear n0_
  have cI := HS.out.cellI
  have cO := HS.out.cellD
  have fO := HS.out.freeO
  refine store_event (t := 30) (p := 38) (v := ?vo31) (w1 := ?w131) ?hg31 ?ho31 ?hn31 ?hr31 ?_
  (case ho31 => rfl)
  (case hg31 => rfl)
  (case hn31 => rfl)
  (case hr31 => (go_simp;rfl))
  intro W_ hw
  have n0_ := Aside0.mk (HS.out.put hw)
  clear hw HS cI cO fO
  have HS := n0_
  clear n0_
  have cI := HS.out.cellI
  have cO := HS.out.cellD
  have fO := HS.out.freeO
  go_wp2_with (first | ((with_reducible refine gate_store (t := 30) (p := 44) rfl ?_); refine store_event (t := 30) (p := 44) (v := ?vo32) (w1 := ?w132) ?hg32 ?ho32 ?hn32 ?hr32 ?_; (case ho32 => rfl); (case hg32 => rfl); (case hn32 => rfl); (case hr32 => (go_simp;rfl)); intro W_ hw; have n0_ := Aside0.mk (HS.out.put hw); clear hw HS cI cO fO; have HS := n0_; clear n0_; have cI := HS.out.cellI; have cO := HS.out.cellD; have fO := HS.out.freeO) | (go_at_call 40; refine (St.little HH.out HS.out (k := 16) (by rw [HL.out]; decide)).mono ?_; rintro e W_ ⟨rfl, hst⟩; have n0_ := Aside0.mk hst; clear hst HS cI cO fO; have HS := n0_; clear n0_; have cI := HS.out.cellI; have cO := HS.out.cellD; have fO := HS.out.freeO))
  have wix_ : IntKind.i64.wrap 18 = 18 := by decide
  go_still_tail 10, (by kernel_rfl)
  clear wix_
  change wpList _ _ _ _ _ W_.drew
  have n0_ := Aside0.mk HS.out.drew
  clear HS cI cO fO
  generalize W_.drew = W_ at n0_ ⊢
  have HS := n0_
  clear n0_
  have cI := HS.out.cellI
  have cO := HS.out.cellD
  have fO := HS.out.freeO
  refine store_event (t := 30) (p := 56) (v := ?vo33) (w1 := ?w133) ?hg33 ?ho33 ?hn33 ?hr33 ?_
  (case ho33 => rfl)
  (case hg33 => rfl)
  (case hn33 => rfl)
  (case hr33 => (go_simp;rfl))
  intro W_ hw
  have n0_ := Aside0.mk (HS.out.put hw)
  clear hw HS cI cO fO
  have HS := n0_
  clear n0_
  have cI := HS.out.cellI
  have cO := HS.out.cellD
  have fO := HS.out.freeO
  go_wp2_with (first | ((with_reducible refine gate_store (t := 30) (p := 62) rfl ?_); refine store_event (t := 30) (p := 62) (v := ?vo34) (w1 := ?w134) ?hg34 ?ho34 ?hn34 ?hr34 ?_; (case ho34 => rfl); (case hg34 => rfl); (case hn34 => rfl); (case hr34 => (go_simp;rfl)); intro W_ hw; have n0_ := Aside0.mk (HS.out.put hw); clear hw HS cI cO fO; have HS := n0_; clear n0_; have cI := HS.out.cellI; have cO := HS.out.cellD; have fO := HS.out.freeO) | (go_at_call 40; refine (St.little HH.out HS.out (k := 17) (by rw [HL.out]; decide)).mono ?_; rintro e W_ ⟨rfl, hst⟩; have n0_ := Aside0.mk hst; clear hst HS cI cO fO; have HS := n0_; clear n0_; have cI := HS.out.cellI; have cO := HS.out.cellD; have fO := HS.out.freeO))
  have wix_ : IntKind.i64.wrap 19 = 19 := by decide
  go_still_tail 10, (by kernel_rfl)
  clear wix_
  change wpList _ _ _ _ _ W_.drew
  have n0_ := Aside0.mk HS.out.drew
  clear HS cI cO fO
  generalize W_.drew = W_ at n0_ ⊢
  have HS := n0_
  clear n0_
  have cI := HS.out.cellI
  have cO := HS.out.cellD
  have fO := HS.out.freeO
  refine store_event (t := 30) (p := 74) (v := ?vo35) (w1 := ?w135) ?hg35 ?ho35 ?hn35 ?hr35 ?_
  (case ho35 => rfl)
  (case hg35 => rfl)
  (case hn35 => rfl)
  (case hr35 => (go_simp;rfl))
  intro W_ hw
  have n0_ := Aside0.mk (HS.out.put hw)
  clear hw HS cI cO fO
  have HS := n0_
  clear n0_
  have cI := HS.out.cellI
  have cO := HS.out.cellD
  have fO := HS.out.freeO
  go_wp2_with (first | ((with_reducible refine gate_store (t := 30) (p := 80) rfl ?_); refine store_event (t := 30) (p := 80) (v := ?vo36) (w1 := ?w136) ?hg36 ?ho36 ?hn36 ?hr36 ?_; (case ho36 => rfl); (case hg36 => rfl); (case hn36 => rfl); (case hr36 => (go_simp;rfl)); intro W_ hw; have n0_ := Aside0.mk (HS.out.put hw); clear hw HS cI cO fO; have HS := n0_; clear n0_; have cI := HS.out.cellI; have cO := HS.out.cellD; have fO := HS.out.freeO) | (go_at_call 40; refine (St.little HH.out HS.out (k := 18) (by rw [HL.out]; decide)).mono ?_; rintro e W_ ⟨rfl, hst⟩; have n0_ := Aside0.mk hst; clear hst HS cI cO fO; have HS := n0_; clear n0_; have cI := HS.out.cellI; have cO := HS.out.cellD; have fO := HS.out.freeO))
  have wix_ : IntKind.i64.wrap 20 = 20 := by decide
  go_still_tail 10, (by kernel_rfl)
  clear wix_
  change wpList _ _ _ _ _ W_.drew
  have n0_ := Aside0.mk HS.out.drew
  clear HS cI cO fO
  generalize W_.drew = W_ at n0_ ⊢
  have HS := n0_
  clear n0_
  have cI := HS.out.cellI
  have cO := HS.out.cellD
  have fO := HS.out.freeO
  refine store_event (t := 30) (p := 92) (v := ?vo37) (w1 := ?w137) ?hg37 ?ho37 ?hn37 ?hr37 ?_
  (case ho37 => rfl)
  (case hg37 => rfl)
  (case hn37 => rfl)
  (case hr37 => (go_simp;rfl))
  intro W_ hw
  have n0_ := Aside0.mk (HS.out.put hw)
  clear hw HS cI cO fO
  have HS := n0_
  clear n0_
  have cI := HS.out.cellI
  have cO := HS.out.cellD
  have fO := HS.out.freeO
  go_wp2_with (first | ((with_reducible refine gate_store (t := 30) (p := 98) rfl ?_); refine store_event (t := 30) (p := 98) (v := ?vo38) (w1 := ?w138) ?hg38 ?ho38 ?hn38 ?hr38 ?_; (case ho38 => rfl); (case hg38 => rfl); (case hn38 => rfl); (case hr38 => (go_simp;rfl)); intro W_ hw; have n0_ := Aside0.mk (HS.out.put hw); clear hw HS cI cO fO; have HS := n0_; clear n0_; have cI := HS.out.cellI; have cO := HS.out.cellD; have fO := HS.out.freeO) | (go_at_call 40; refine (St.little HH.out HS.out (k := 19) (by rw [HL.out]; decide)).mono ?_; rintro e W_ ⟨rfl, hst⟩; have n0_ := Aside0.mk hst; clear hst HS cI cO fO; have HS := n0_; clear n0_; have cI := HS.out.cellI; have cO := HS.out.cellD; have fO := HS.out.freeO))
  have wix_ : IntKind.i64.wrap 21 = 21 := by decide
  go_still_tail 10, (by kernel_rfl)
  clear wix_
  change wpList _ _ _ _ _ W_.drew
  have n0_ := Aside0.mk HS.out.drew
  clear HS cI cO fO
  generalize W_.drew = W_ at n0_ ⊢
  have HS := n0_
  clear n0_
  have cI := HS.out.cellI
  have cO := HS.out.cellD
  have fO := HS.out.freeO
  refine store_event (t := 30) (p := 110) (v := ?vo39) (w1 := ?w139) ?hg39 ?ho39 ?hn39 ?hr39 ?_
  (case ho39 => rfl)
  (case hg39 => rfl)
  (case hn39 => rfl)
  (case hr39 => (go_simp;rfl))
  intro W_ hw
  have n0_ := Aside0.mk (HS.out.put hw)
  clear hw HS cI cO fO
  have HS := n0_
  clear n0_
  have cI := HS.out.cellI
  have cO := HS.out.cellD
  have fO := HS.out.freeO
  go_wp2_with (first | ((with_reducible refine gate_store (t := 30) (p := 116) rfl ?_); refine store_event (t := 30) (p := 116) (v := ?vo40) (w1 := ?w140) ?hg40 ?ho40 ?hn40 ?hr40 ?_; (case ho40 => rfl); (case hg40 => rfl); (case hn40 => rfl); (case hr40 => (go_simp;rfl)); intro W_ hw; have n0_ := Aside0.mk (HS.out.put hw); clear hw HS cI cO fO; have HS := n0_; clear n0_; have cI := HS.out.cellI; have cO := HS.out.cellD; have fO := HS.out.freeO) | (go_at_call 40; refine (St.little HH.out HS.out (k := 20) (by rw [HL.out]; decide)).mono ?_; rintro e W_ ⟨rfl, hst⟩; have n0_ := Aside0.mk hst; clear hst HS cI cO fO; have HS := n0_; clear n0_; have cI := HS.out.cellI; have cO := HS.out.cellD; have fO := HS.out.freeO))
  have wix_ : IntKind.i64.wrap 22 = 22 := by decide
  go_still_tail 10, (by kernel_rfl)
  clear wix_
  change wpList _ _ _ _ _ W_.drew
  have n0_ := Aside0.mk HS.out.drew
  clear HS cI cO fO
  generalize W_.drew = W_ at n0_ ⊢
  have HS := n0_
  clear n0_
  have cI := HS.out.cellI
  have cO := HS.out.cellD
  have fO := HS.out.freeO
  refine store_event (t := 30) (p := 128) (v := ?vo41) (w1 := ?w141) ?hg41 ?ho41 ?hn41 ?hr41 ?_
  (case ho41 => rfl)
  (case hg41 => rfl)
  (case hn41 => rfl)
  (case hr41 => (go_simp;rfl))
  intro W_ hw
  have n0_ := Aside0.mk (HS.out.put hw)
  clear hw HS cI cO fO
  have HS := n0_
  clear n0_
  have cI := HS.out.cellI
  have cO := HS.out.cellD
  have fO := HS.out.freeO
  go_wp2_with (first | ((with_reducible refine gate_store (t := 30) (p := 134) rfl ?_); refine store_event (t := 30) (p := 134) (v := ?vo42) (w1 := ?w142) ?hg42 ?ho42 ?hn42 ?hr42 ?_; (case ho42 => rfl); (case hg42 => rfl); (case hn42 => rfl); (case hr42 => (go_simp;rfl)); intro W_ hw; have n0_ := Aside0.mk (HS.out.put hw); clear hw HS cI cO fO; have HS := n0_; clear n0_; have cI := HS.out.cellI; have cO := HS.out.cellD; have fO := HS.out.freeO))
  rw [rounds_succ]
  go_wp2_with (first | (go_at_call 40; refine (St.little HH.out HS.out (k := 21) (by rw [HL.out]; decide)).mono ?_; rintro e W_ ⟨rfl, hst⟩; have n0_ := Aside0.mk hst; clear hst HS cI cO fO; have HS := n0_; clear n0_; have cI := HS.out.cellI; have cO := HS.out.cellD; have fO := HS.out.freeO) | ((with_reducible refine gate_store (t := 30) (p := 20) rfl ?_); refine store_event (t := 30) (p := 20) (v := ?vo43) (w1 := ?w143) ?hg43 ?ho43 ?hn43 ?hr43 ?_; (case ho43 => rfl); (case hg43 => rfl); (case hn43 => rfl); (case hr43 => (go_simp;rfl)); intro W_ hw; have n0_ := Aside0.mk (HS.out.put hw); clear hw HS cI cO fO; have HS := n0_; clear n0_; have cI := HS.out.cellI; have cO := HS.out.cellD; have fO := HS.out.freeO) | ((with_reducible refine gate_store (t := 30) (p := 26) rfl ?_); refine store_event (t := 30) (p := 26) (v := ?vo44) (w1 := ?w144) ?hg44 ?ho44 ?hn44 ?hr44 ?_; (case ho44 => rfl); (case hg44 => rfl); (case hn44 => rfl); (case hr44 => (go_simp;rfl)); intro W_ hw; have n0_ := Aside0.mk (HS.out.put hw); clear hw HS cI cO fO; have HS := n0_; clear n0_; have cI := HS.out.cellI; have cO := HS.out.cellD; have fO := HS.out.freeO) | (go_at_call 40; refine (St.little HH.out HS.out (k := 22) (by rw [HL.out]; decide)).mono ?_; rintro e W_ ⟨rfl, hst⟩; have n0_ := Aside0.mk hst; clear hst HS cI cO fO; have HS := n0_; clear n0_; have cI := HS.out.cellI; have cO := HS.out.cellD; have fO := HS.out.freeO))
  have wix_ : IntKind.i64.wrap 25 = 25 := by decide
  go_still_tail 10, (by kernel_rfl)
  clear wix_
  change wpList _ _ _ _ _ W_.drew
  have n0_ := Aside0.mk HS.out.drew
  clear HS cI cO fO
  generalize W_.drew = W_ at n0_ ⊢
  have HS := n0_
  clear n0_
  have cI := HS.out.cellI
  have cO := HS.out.cellD
  have fO := HS.out.freeO
  refine store_event (t := 30) (p := 38) (v := ?vo45) (w1 := ?w145) ?hg45 ?ho45 ?hn45 ?hr45 ?_
  (case ho45 => rfl)
  (case hg45 => rfl)
  (case hn45 => rfl)
  (case hr45 => (go_simp;rfl))
  intro W_ hw
  have n0_ := Aside0.mk (HS.out.put hw)
  clear hw HS cI cO fO
  have HS := n0_
  clear n0_
  have cI := HS.out.cellI
  have cO := HS.out.cellD
  have fO := HS.out.freeO
  go_wp2_with (first | ((with_reducible refine gate_store (t := 30) (p := 44) rfl ?_); refine store_event (t := 30) (p := 44) (v := ?vo46) (w1 := ?w146) ?hg46 ?ho46 ?hn46 ?hr46 ?_; (case ho46 => rfl); (case hg46 => rfl); (case hn46 => rfl); (case hr46 => (go_simp;rfl)); intro W_ hw; have n0_ := Aside0.mk (HS.out.put hw); clear hw HS cI cO fO; have HS := n0_; clear n0_; have cI := HS.out.cellI; have cO := HS.out.cellD; have fO := HS.out.freeO) | (go_at_call 40; refine (St.little HH.out HS.out (k := 23) (by rw [HL.out]; decide)).mono ?_; rintro e W_ ⟨rfl, hst⟩; have n0_ := Aside0.mk hst; clear hst HS cI cO fO; have HS := n0_; clear n0_; have cI := HS.out.cellI; have cO := HS.out.cellD; have fO := HS.out.freeO))
  have wix_ : IntKind.i64.wrap 26 = 26 := by decide
  go_still_tail 10, (by kernel_rfl)
  clear wix_
  change wpList _ _ _ _ _ W_.drew
  have n0_ := Aside0.mk HS.out.drew
  clear HS cI cO fO
  generalize W_.drew = W_ at n0_ ⊢
  have HS := n0_
  clear n0_
  have cI := HS.out.cellI
  have cO := HS.out.cellD
  have fO := HS.out.freeO
  refine store_event (t := 30) (p := 56) (v := ?vo47) (w1 := ?w147) ?hg47 ?ho47 ?hn47 ?hr47 ?_
  (case ho47 => rfl)
  (case hg47 => rfl)
  (case hn47 => rfl)
  (case hr47 => (go_simp;rfl))
  intro W_ hw
  have n0_ := Aside0.mk (HS.out.put hw)
  clear hw HS cI cO fO
  have HS := n0_
  clear n0_
  have cI := HS.out.cellI
  have cO := HS.out.cellD
  have fO := HS.out.freeO
  go_wp2_with (first | ((with_reducible refine gate_store (t := 30) (p := 62) rfl ?_); refine store_event (t := 30) (p := 62) (v := ?vo48) (w1 := ?w148) ?hg48 ?ho48 ?hn48 ?hr48 ?_; (case ho48 => rfl); (case hg48 => rfl); (case hn48 => rfl); (case hr48 => (go_simp;rfl)); intro W_ hw; have n0_ := Aside0.mk (HS.out.put hw); clear hw HS cI cO fO; have HS := n0_; clear n0_; have cI := HS.out.cellI; have cO := HS.out.cellD; have fO := HS.out.freeO) | (go_at_call 40; refine (St.little HH.out HS.out (k := 24) (by rw [HL.out]; decide)).mono ?_; rintro e W_ ⟨rfl, hst⟩; have n0_ := Aside0.mk hst; clear hst HS cI cO fO; have HS := n0_; clear n0_; have cI := HS.out.cellI; have cO := HS.out.cellD; have fO := HS.out.freeO))
  have wix_ : IntKind.i64.wrap 27 = 27 := by decide
  go_still_tail 10, (by kernel_rfl)
  clear wix_
  change wpList _ _ _ _ _ W_.drew
  have n0_ := Aside0.mk HS.out.drew
  clear HS cI cO fO
  generalize W_.drew = W_ at n0_ ⊢
  have HS := n0_
  clear n0_
  have cI := HS.out.cellI
  have cO := HS.out.cellD
  have fO := HS.out.freeO
  refine store_event (t := 30) (p := 74) (v := ?vo49) (w1 := ?w149) ?hg49 ?ho49 ?hn49 ?hr49 ?_
  (case ho49 => rfl)
  (case hg49 => rfl)
  (case hn49 => rfl)
  (case hr49 => (go_simp;rfl))
  intro W_ hw
  have n0_ := Aside0.mk (HS.out.put hw)
  clear hw HS cI cO fO
  have HS := n0_
  clear n0_
  have cI := HS.out.cellI
  have cO := HS.out.cellD
  have fO := HS.out.freeO
  go_wp2_with (first | ((with_reducible refine gate_store (t := 30) (p := 80) rfl ?_); refine store_event (t := 30) (p := 80) (v := ?vo50) (w1 := ?w150) ?hg50 ?ho50 ?hn50 ?hr50 ?_; (case ho50 => rfl); (case hg50 => rfl); (case hn50 => rfl); (case hr50 => (go_simp;rfl)); intro W_ hw; have n0_ := Aside0.mk (HS.out.put hw); clear hw HS cI cO fO; have HS := n0_; clear n0_; have cI := HS.out.cellI; have cO := HS.out.cellD; have fO := HS.out.freeO) | (go_at_call 40; refine (St.little HH.out HS.out (k := 25) (by rw [HL.out]; decide)).mono ?_; rintro e W_ ⟨rfl, hst⟩; have n0_ := Aside0.mk hst; clear hst HS cI cO fO; have HS := n0_; clear n0_; have cI := HS.out.cellI; have cO := HS.out.cellD; have fO := HS.out.freeO))
  have wix_ : IntKind.i64.wrap 28 = 28 := by decide
  go_still_tail 10, (by kernel_rfl)
  clear wix_
  change wpList _ _ _ _ _ W_.drew
  have n0_ := Aside0.mk HS.out.drew
  clear HS cI cO fO
  generalize W_.drew = W_ at n0_ ⊢
  have HS := n0_
  clear n0_
  have cI := HS.out.cellI
  have cO := HS.out.cellD
  have fO := HS.out.freeO
  refine store_event (t := 30) (p := 92) (v := ?vo51) (w1 := ?w151) ?hg51 ?ho51 ?hn51 ?hr51 ?_
  (case ho51 => rfl)
  (case hg51 => rfl)
  (case hn51 => rfl)
  (case hr51 => (go_simp;rfl))
  intro W_ hw
  have n0_ := Aside0.mk (HS.out.put hw)
  clear hw HS cI cO fO
  have HS := n0_
  clear n0_
  have cI := HS.out.cellI
  have cO := HS.out.cellD
  have fO := HS.out.freeO
  go_wp2_with (first | ((with_reducible refine gate_store (t := 30) (p := 98) rfl ?_); refine store_event (t := 30) (p := 98) (v := ?vo52) (w1 := ?w152) ?hg52 ?ho52 ?hn52 ?hr52 ?_; (case ho52 => rfl); (case hg52 => rfl); (case hn52 => rfl); (case hr52 => (go_simp;rfl)); intro W_ hw; have n0_ := Aside0.mk (HS.out.put hw); clear hw HS cI cO fO; have HS := n0_; clear n0_; have cI := HS.out.cellI; have cO := HS.out.cellD; have fO := HS.out.freeO) | (go_at_call 40; refine (St.little HH.out HS.out (k := 26) (by rw [HL.out]; decide)).mono ?_; rintro e W_ ⟨rfl, hst⟩; have n0_ := Aside0.mk hst; clear hst HS cI cO fO; have HS := n0_; clear n0_; have cI := HS.out.cellI; have cO := HS.out.cellD; have fO := HS.out.freeO))
  have wix_ : IntKind.i64.wrap 29 = 29 := by decide
  go_still_tail 10, (by kernel_rfl)
  clear wix_
  change wpList _ _ _ _ _ W_.drew
  have n0_ := Aside0.mk HS.out.drew
  clear HS cI cO fO
  generalize W_.drew = W_ at n0_ ⊢
  have HS := n0_
  clear n0_
  have cI := HS.out.cellI
  have cO := HS.out.cellD
  have fO := HS.out.freeO
  refine store_event (t := 30) (p := 110) (v := ?vo53) (w1 := ?w153) ?hg53 ?ho53 ?hn53 ?hr53 ?_
  (case ho53 => rfl)
  (case hg53 => rfl)
  (case hn53 => rfl)
  (case hr53 => (go_simp;rfl))
  intro W_ hw
  have n0_ := Aside0.mk (HS.out.put hw)
  clear hw HS cI cO fO
  have HS := n0_
  clear n0_
  have cI := HS.out.cellI
  have cO := HS.out.cellD
  have fO := HS.out.freeO
  go_wp2_with (first | ((with_reducible refine gate_store (t := 30) (p := 116) rfl ?_); refine store_event (t := 30) (p := 116) (v := ?vo54) (w1 := ?w154) ?hg54 ?ho54 ?hn54 ?hr54 ?_; (case ho54 => rfl); (case hg54 => rfl); (case hn54 => rfl); (case hr54 => (go_simp;rfl)); intro W_ hw; have n0_ := Aside0.mk (HS.out.put hw); clear hw HS cI cO fO; have HS := n0_; clear n0_; have cI := HS.out.cellI; have cO := HS.out.cellD; have fO := HS.out.freeO) | (go_at_call 40; refine (St.little HH.out HS.out (k := 27) (by rw [HL.out]; decide)).mono ?_; rintro e W_ ⟨rfl, hst⟩; have n0_ := Aside0.mk hst; clear hst HS cI cO fO; have HS := n0_; clear n0_; have cI := HS.out.cellI; have cO := HS.out.cellD; have fO := HS.out.freeO))
  have wix_ : IntKind.i64.wrap 30 = 30 := by decide
  go_still_tail 10, (by kernel_rfl)
  clear wix_
  change wpList _ _ _ _ _ W_.drew
  have n0_ := Aside0.mk HS.out.drew
  clear HS cI cO fO
  generalize W_.drew = W_ at n0_ ⊢
  have HS := n0_
  clear n0_
  have cI := HS.out.cellI
  have cO := HS.out.cellD
  have fO := HS.out.freeO
  refine store_event (t := 30) (p := 128) (v := ?vo55) (w1 := ?w155) ?hg55 ?ho55 ?hn55 ?hr55 ?_
  (case ho55 => rfl)
  (case hg55 => rfl)
  (case hn55 => rfl)
  (case hr55 => (go_simp;rfl))
  intro W_ hw
  have n0_ := Aside0.mk (HS.out.put hw)
  clear hw HS cI cO fO
  have HS := n0_
  clear n0_
  have cI := HS.out.cellI
  have cO := HS.out.cellD
  have fO := HS.out.freeO
  go_wp2_with (first | ((with_reducible refine gate_store (t := 30) (p := 134) rfl ?_); refine store_event (t := 30) (p := 134) (v := ?vo56) (w1 := ?w156) ?hg56 ?ho56 ?hn56 ?hr56 ?_; (case ho56 => rfl); (case hg56 => rfl); (case hn56 => rfl); (case hr56 => (go_simp;rfl)); intro W_ hw; have n0_ := Aside0.mk (HS.out.put hw); clear hw HS cI cO fO; have HS := n0_; clear n0_; have cI := HS.out.cellI; have cO := HS.out.cellD; have fO := HS.out.freeO))
  rw [rounds_succ]
  go_wp2_with fail
  refine bodyPost_end (results_none rfl _ _ _) rfl ?_
  have hrow := HS.out.row
  simp only [List.replicate, List.set] at hrow
  have hrow2 : W_.heap[O]? = some (.cells ((lit28 l).map (Value.int .u32)).toArray 30 (0, 0)) := by unfold lit28; exact hrow
  rw [lit28_is] at hrow2
  exact ⟨rfl, hrow2, HS.out.kept, HS.out.below⟩
end Go.Proofs.YtidcmpjcghbofaaDoor.Q
