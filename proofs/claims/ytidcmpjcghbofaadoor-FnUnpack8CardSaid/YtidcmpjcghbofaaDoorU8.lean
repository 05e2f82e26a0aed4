/- The walk of the unpacking of 8 bits: what is unpacked are the fields of the bytes' number. -/
import Derived.Test.YtidcmpjcghbofaaDoorUb
import Derived.Test.YtidcmpjcghbofaaDoorUf
import Derived.Recover
import Derived.Handy
import Derived.StillTailTactics
import Derived.Laws.CopyOwn
import Derived.Deep.RegionLaw
import Derived.Test.YtidcmpjcghbofaaDoorNum
namespace Go.Proofs.YtidcmpjcghbofaaDoor.Q
open Go.RowKit Go.Proofs.YtidcmpjcghbofaaDoorW.PrintWords Go.Proofs.YtidcmpjcghbofaaDoorW.PrintLast Go.Proofs.YtidcmpjcghbofaaDoorW.PrintMore
set_option linter.unusedVariables false
set_option linter.unusedSimpArgs false
def lit8 (l : List Int) : List Int := [((word l 0 : Nat) : Int) % 256, ((word l 0 : Nat) : Int) / 256 % 256, ((word l 0 : Nat) : Int) / 65536 % 256, ((word l 0 : Nat) : Int) / 16777216, ((word l 1 : Nat) : Int) % 256, ((word l 1 : Nat) : Int) / 256 % 256, ((word l 1 : Nat) : Int) / 65536 % 256, ((word l 1 : Nat) : Int) / 16777216, ((word l 2 : Nat) : Int) % 256, ((word l 2 : Nat) : Int) / 256 % 256, ((word l 2 : Nat) : Int) / 65536 % 256, ((word l 2 : Nat) : Int) / 16777216, ((word l 3 : Nat) : Int) % 256, ((word l 3 : Nat) : Int) / 256 % 256, ((word l 3 : Nat) : Int) / 65536 % 256, ((word l 3 : Nat) : Int) / 16777216, ((word l 4 : Nat) : Int) % 256, ((word l 4 : Nat) : Int) / 256 % 256, ((word l 4 : Nat) : Int) / 65536 % 256, ((word l 4 : Nat) : Int) / 16777216, ((word l 5 : Nat) : Int) % 256, ((word l 5 : Nat) : Int) / 256 % 256, ((word l 5 : Nat) : Int) / 65536 % 256, ((word l 5 : Nat) : Int) / 16777216, ((word l 6 : Nat) : Int) % 256, ((word l 6 : Nat) : Int) / 256 % 256, ((word l 6 : Nat) : Int) / 65536 % 256, ((word l 6 : Nat) : Int) / 16777216, ((word l 7 : Nat) : Int) % 256, ((word l 7 : Nat) : Int) / 256 % 256, ((word l 7 : Nat) : Int) / 65536 % 256, ((word l 7 : Nat) : Int) / 16777216]
theorem lit8_is (l : List Int) : lit8 l = fields l 8 :=
  cons_eq (fld_first l 8 0 0 (by decide) (by decide) 256 (by decide)) <|
  cons_eq (fld_in l 8 1 0 8 (by decide) (by decide) 256 256 (by decide) (by decide)) <|
  cons_eq (fld_in l 8 2 0 16 (by decide) (by decide) 65536 256 (by decide) (by decide)) <|
  cons_eq (fld_top l 8 3 0 24 (by decide) (by decide) 16777216 (by decide)) <|
  cons_eq (fld_first l 8 4 1 (by decide) (by decide) 256 (by decide)) <|
  cons_eq (fld_in l 8 5 1 8 (by decide) (by decide) 256 256 (by decide) (by decide)) <|
  cons_eq (fld_in l 8 6 1 16 (by decide) (by decide) 65536 256 (by decide) (by decide)) <|
  cons_eq (fld_top l 8 7 1 24 (by decide) (by decide) 16777216 (by decide)) <|
  cons_eq (fld_first l 8 8 2 (by decide) (by decide) 256 (by decide)) <|
  cons_eq (fld_in l 8 9 2 8 (by decide) (by decide) 256 256 (by decide) (by decide)) <|
  cons_eq (fld_in l 8 10 2 16 (by decide) (by decide) 65536 256 (by decide) (by decide)) <|
  cons_eq (fld_top l 8 11 2 24 (by decide) (by decide) 16777216 (by decide)) <|
  cons_eq (fld_first l 8 12 3 (by decide) (by decide) 256 (by decide)) <|
  cons_eq (fld_in l 8 13 3 8 (by decide) (by decide) 256 256 (by decide) (by decide)) <|
  cons_eq (fld_in l 8 14 3 16 (by decide) (by decide) 65536 256 (by decide) (by decide)) <|
  cons_eq (fld_top l 8 15 3 24 (by decide) (by decide) 16777216 (by decide)) <|
  cons_eq (fld_first l 8 16 4 (by decide) (by decide) 256 (by decide)) <|
  cons_eq (fld_in l 8 17 4 8 (by decide) (by decide) 256 256 (by decide) (by decide)) <|
  cons_eq (fld_in l 8 18 4 16 (by decide) (by decide) 65536 256 (by decide) (by decide)) <|
  cons_eq (fld_top l 8 19 4 24 (by decide) (by decide) 16777216 (by decide)) <|
  cons_eq (fld_first l 8 20 5 (by decide) (by decide) 256 (by decide)) <|
  cons_eq (fld_in l 8 21 5 8 (by decide) (by decide) 256 256 (by decide) (by decide)) <|
  cons_eq (fld_in l 8 22 5 16 (by decide) (by decide) 65536 256 (by decide) (by decide)) <|
  cons_eq (fld_top l 8 23 5 24 (by decide) (by decide) 16777216 (by decide)) <|
  cons_eq (fld_first l 8 24 6 (by decide) (by decide) 256 (by decide)) <|
  cons_eq (fld_in l 8 25 6 8 (by decide) (by decide) 256 256 (by decide) (by decide)) <|
  cons_eq (fld_in l 8 26 6 16 (by decide) (by decide) 65536 256 (by decide) (by decide)) <|
  cons_eq (fld_top l 8 27 6 24 (by decide) (by decide) 16777216 (by decide)) <|
  cons_eq (fld_first l 8 28 7 (by decide) (by decide) 256 (by decide)) <|
  cons_eq (fld_in l 8 29 7 8 (by decide) (by decide) 256 256 (by decide) (by decide)) <|
  cons_eq (fld_in l 8 30 7 16 (by decide) (by decide) 65536 256 (by decide) (by decide)) <|
  cons_eq (fld_top l 8 31 7 24 (by decide) (by decide) 16777216 (by decide)) <| rfl
set_option maxHeartbeats 16000000 in
set_option maxRecDepth 100000 in
theorem unpack8_32.calls (R O : Nat) (ad : Addr) (c : Nat) (q : Int) (l : List Int) (w : World) (hl : l.length = 32) (H : Src w R O ad c l)
    (hR : w.heap[R]? = some (.cells #[.slice (some ad) l.length c, .int .i64 0, .int .i64 q] 43 (0, 0)))
    (hO : w.heap[O]? = some (.cells ((List.replicate 32 (0 : Int)).map (Value.int .u32)).toArray 30 (0, 0))) (hne : R ≠ O) :
    Calls Tryd.prog 37 #[.iface 34 (.pointer (some ⟨R, 0, none⟩)), .slice (some ⟨O, 0, none⟩) 32 32] w fun e w' => e = .returned (.tuple #[]) ∧
      w'.heap[O]? = some (.cells ((fields l 8).map (Value.int .u32)).toArray 30 (0, 0)) ∧ Kept w w' (fun k => k = R ∨ k = O) ∧ Below (min R O) w w' := by
  have HS := Aside0.mk (St.start hR hO hne (by simp))
  have HH := Aside0.mk H
  have HL := Aside0.mk hl
  have cI := HS.out.cellI
  have cO := HS.out.cellD
  have fO := HS.out.freeO
  clear H hR hO hl
  go_enter Tryd.func37, Tryd.ntmps37
  go_wp2_with (first | (go_at_call 40; refine (St.little HH.out HS.out (k := 0) (by rw [HL.out]; decide)).mono ?_; rintro e W_ ⟨rfl, hst⟩; have n0_ := Aside0.mk hst; clear hst HS cI cO fO; have HS := n0_; clear n0_; have cI := HS.out.cellI; have cO := HS.out.cellD; have fO := HS.out.freeO))
  refine wp_loop_rounds 4 ?_
  rw [rounds_succ]
  go_wp2_with (first | ((with_reducible refine gate_store (t := 30) (p := 27) rfl ?_); refine store_event (t := 30) (p := 27) (v := ?vo1) (w1 := ?w11) ?hg1 ?ho1 ?hn1 ?hr1 ?_; (case ho1 => rfl); (case hg1 => rfl); (case hn1 => rfl); (case hr1 => (go_simp;rfl)); intro W_ hw; have n0_ := Aside0.mk (HS.out.put hw); clear hw HS cI cO fO; have HS := n0_; clear n0_; have cI := HS.out.cellI; have cO := HS.out.cellD; have fO := HS.out.freeO))
  rw [rounds_succ]
  go_wp2_with (first | ((with_reducible refine gate_store (t := 30) (p := 27) rfl ?_); refine store_event (t := 30) (p := 27) (v := ?vo2) (w1 := ?w12) ?hg2 ?ho2 ?hn2 ?hr2 ?_; (case ho2 => rfl); (case hg2 => rfl); (case hn2 => rfl); (case hr2 => (go_simp;rfl)); intro W_ hw; have n0_ := Aside0.mk (HS.out.put hw); clear hw HS cI cO fO; have HS := n0_; clear n0_; have cI := HS.out.cellI; have cO := HS.out.cellD; have fO := HS.out.freeO))
  rw [rounds_succ]
  go_wp2_with (first | ((with_reducible refine gate_store (t := 30) (p := 27) rfl ?_); refine store_event (t := 30) (p := 27) (v := ?vo3) (w1 := ?w13) ?hg3 ?ho3 ?hn3 ?hr3 ?_; (case ho3 => rfl); (case hg3 => rfl); (case hn3 => rfl); (case hr3 => (go_simp;rfl)); intro W_ hw; have n0_ := Aside0.mk (HS.out.put hw); clear hw HS cI cO fO; have HS := n0_; clear n0_; have cI := HS.out.cellI; have cO := HS.out.cellD; have fO := HS.out.freeO))
  rw [rounds_succ]
  go_wp2_with (first | ((with_reducible refine gate_store (t := 30) (p := 31) rfl ?_); refine store_event (t := 30) (p := 31) (v := ?vo4) (w1 := ?w14) ?hg4 ?ho4 ?hn4 ?hr4 ?_; (case ho4 => rfl); (case hg4 => rfl); (case hn4 => rfl); (case hr4 => (go_simp;rfl)); intro W_ hw; have n0_ := Aside0.mk (HS.out.put hw); clear hw HS cI cO fO; have HS := n0_; clear n0_; have cI := HS.out.cellI; have cO := HS.out.cellD; have fO := HS.out.freeO) | (go_at_call 40; refine (St.little HH.out HS.out (k := 1) (by rw [HL.out]; decide)).mono ?_; rintro e W_ ⟨rfl, hst⟩; have n0_ := Aside0.mk hst; clear hst HS cI cO fO; have HS := n0_; clear n0_; have cI := HS.out.cellI; have cO := HS.out.cellD; have fO := HS.out.freeO))
  refine wp_loop_rounds 4 ?_
  rw [rounds_succ]
  go_wp2_with (first | ((with_reducible refine gate_store (t := 30) (p := 46) rfl ?_); refine store_event (t := 30) (p := 46) (v := ?vo5) (w1 := ?w15) ?hg5 ?ho5 ?hn5 ?hr5 ?_; (case ho5 => rfl); (case hg5 => rfl); (case hn5 => rfl); (case hr5 => (go_simp;rfl)); intro W_ hw; have n0_ := Aside0.mk (HS.out.put hw); clear hw HS cI cO fO; have HS := n0_; clear n0_; have cI := HS.out.cellI; have cO := HS.out.cellD; have fO := HS.out.freeO))
  rw [rounds_succ]
  go_wp2_with (first | ((with_reducible refine gate_store (t := 30) (p := 46) rfl ?_); refine store_event (t := 30) (p := 46) (v := ?vo6) (w1 := ?w16) ?hg6 ?ho6 ?hn6 ?hr6 ?_; (case ho6 => rfl); (case hg6 => rfl); (case hn6 => rfl); (case hr6 => (go_simp;rfl)); intro W_ hw; have n0_ := Aside0.mk (HS.out.put hw); clear hw HS cI cO fO; have HS := n0_; clear n0_; have cI := HS.out.cellI; have cO := HS.out.cellD; have fO := HS.out.freeO))
  rw [rounds_succ]
  go_wp2_with (first | ((with_reducible refine gate_store (t := 30) (p := 46) rfl ?_); refine store_event (t := 30) (p := 46) (v := ?vo7) (w1 := ?w17) ?hg7 ?ho7 ?hn7 ?hr7 ?_; (case ho7 => rfl); (case hg7 => rfl); (case hn7 => rfl); (case hr7 => (go_simp;rfl)); intro W_ hw; have n0_ := Aside0.mk (HS.out.put hw); clear hw HS cI cO fO; have HS := n0_; clear n0_; have cI := HS.out.cellI; have cO := HS.out.cellD; have fO := HS.out.freeO))
  rw [rounds_succ]
  go_wp2_with (first | ((with_reducible refine gate_store (t := 30) (p := 50) rfl ?_); refine store_event (t := 30) (p := 50) (v := ?vo8) (w1 := ?w18) ?hg8 ?ho8 ?hn8 ?hr8 ?_; (case ho8 => rfl); (case hg8 => rfl); (case hn8 => rfl); (case hr8 => (go_simp;rfl)); intro W_ hw; have n0_ := Aside0.mk (HS.out.put hw); clear hw HS cI cO fO; have HS := n0_; clear n0_; have cI := HS.out.cellI; have cO := HS.out.cellD; have fO := HS.out.freeO) | (go_at_call 40; refine (St.little HH.out HS.out (k := 2) (by rw [HL.out]; decide)).mono ?_; rintro e W_ ⟨rfl, hst⟩; have n0_ := Aside0.mk hst; clear hst HS cI cO fO; have HS := n0_; clear n0_; have cI := HS.out.cellI; have cO := HS.out.cellD; have fO := HS.out.freeO))
  refine wp_loop_rounds 4 ?_
  rw [rounds_succ]
  go_wp2_with (first | ((with_reducible refine gate_store (t := 30) (p := 65) rfl ?_); refine store_event (t := 30) (p := 65) (v := ?vo9) (w1 := ?w19) ?hg9 ?ho9 ?hn9 ?hr9 ?_; (case ho9 => rfl); (case hg9 => rfl); (case hn9 => rfl); (case hr9 => (go_simp;rfl)); intro W_ hw; have n0_ := Aside0.mk (HS.out.put hw); clear hw HS cI cO fO; have HS := n0_; clear n0_; have cI := HS.out.cellI; have cO := HS.out.cellD; have fO := HS.out.freeO))
  rw [rounds_succ]
  go_wp2_with (first | ((with_reducible refine gate_store (t := 30) (p := 65) rfl ?_); refine store_event (t := 30) (p := 65) (v := ?vo10) (w1 := ?w110) ?hg10 ?ho10 ?hn10 ?hr10 ?_; (case ho10 => rfl); (case hg10 => rfl); (case hn10 => rfl); (case hr10 => (go_simp;rfl)); intro W_ hw; have n0_ := Aside0.mk (HS.out.put hw); clear hw HS cI cO fO; have HS := n0_; clear n0_; have cI := HS.out.cellI; have cO := HS.out.cellD; have fO := HS.out.freeO))
  rw [rounds_succ]
  go_wp2_with (first | ((with_reducible refine gate_store (t := 30) (p := 65) rfl ?_); refine store_event (t := 30) (p := 65) (v := ?vo11) (w1 := ?w111) ?hg11 ?ho11 ?hn11 ?hr11 ?_; (case ho11 => rfl); (case hg11 => rfl); (case hn11 => rfl); (case hr11 => (go_simp;rfl)); intro W_ hw; have n0_ := Aside0.mk (HS.out.put hw); clear hw HS cI cO fO; have HS := n0_; clear n0_; have cI := HS.out.cellI; have cO := HS.out.cellD; have fO := HS.out.freeO))
  rw [rounds_succ]
  go_wp2_with (first | ((with_reducible refine gate_store (t := 30) (p := 69) rfl ?_); refine store_event (t := 30) (p := 69) (v := ?vo12) (w1 := ?w112) ?hg12 ?ho12 ?hn12 ?hr12 ?_; (case ho12 => rfl); (case hg12 => rfl); (case hn12 => rfl); (case hr12 => (go_simp;rfl)); intro W_ hw; have n0_ := Aside0.mk (HS.out.put hw); clear hw HS cI cO fO; have HS := n0_; clear n0_; have cI := HS.out.cellI; have cO := HS.out.cellD; have fO := HS.out.freeO) | (go_at_call 40; refine (St.little HH.out HS.out (k := 3) (by rw [HL.out]; decide)).mono ?_; rintro e W_ ⟨rfl, hst⟩; have n0_ := Aside0.mk hst; clear hst HS cI cO fO; have HS := n0_; clear n0_; have cI := HS.out.cellI; have cO := HS.out.cellD; have fO := HS.out.freeO))
  refine wp_loop_rounds 4 ?_
  rw [rounds_succ]
  go_wp2_with (first | ((with_reducible refine gate_store (t := 30) (p := 84) rfl ?_); refine store_event (t := 30) (p := 84) (v := ?vo13) (w1 := ?w113) ?hg13 ?ho13 ?hn13 ?hr13 ?_; (case ho13 => rfl); (case hg13 => rfl); (case hn13 => rfl); (case hr13 => (go_simp;rfl)); intro W_ hw; have n0_ := Aside0.mk (HS.out.put hw); clear hw HS cI cO fO; have HS := n0_; clear n0_; have cI := HS.out.cellI; have cO := HS.out.cellD; have fO := HS.out.freeO))
  rw [rounds_succ]
  go_wp2_with (first | ((with_reducible refine gate_store (t := 30) (p := 84) rfl ?_); refine store_event (t := 30) (p := 84) (v := ?vo14) (w1 := ?w114) ?hg14 ?ho14 ?hn14 ?hr14 ?_; (case ho14 => rfl); (case hg14 => rfl); (case hn14 => rfl); (case hr14 => (go_simp;rfl)); intro W_ hw; have n0_ := Aside0.mk (HS.out.put hw); clear hw HS cI cO fO; have HS := n0_; clear n0_; have cI := HS.out.cellI; have cO := HS.out.cellD; have fO := HS.out.freeO))
  rw [rounds_succ]
  go_wp2_with (first | ((with_reducible refine gate_store (t := 30) (p := 84) rfl ?_); refine store_event (t := 30) (p := 84) (v := ?vo15) (w1 := ?w115) ?hg15 ?ho15 ?hn15 ?hr15 ?_; (case ho15 => rfl); (case hg15 => rfl); (case hn15 => rfl); (case hr15 => (go_simp;rfl)); intro W_ hw; have n0_ := Aside0.mk (HS.out.put hw); clear hw HS cI cO fO; have HS := n0_; clear n0_; have cI := HS.out.cellI; have cO := HS.out.cellD; have fO := HS.out.freeO))
  rw [rounds_succ]
  go_wp2_with (first | ((with_reducible refine gate_store (t := 30) (p := 88) rfl ?_); refine store_event (t := 30) (p := 88) (v := ?vo16) (w1 := ?w116) ?hg16 ?ho16 ?hn16 ?hr16 ?_; (case ho16 => rfl); (case hg16 => rfl); (case hn16 => rfl); (case hr16 => (go_simp;rfl)); intro W_ hw; have n0_ := Aside0.mk (HS.out.put hw); clear hw HS cI cO fO; have HS := n0_; clear n0_; have cI := HS.out.cellI; have cO := HS.out.cellD; have fO := HS.out.freeO) | (go_at_call 40; refine (St.little HH.out HS.out (k := 4) (by rw [HL.out]; decide)).mono ?_; rintro e W_ ⟨rfl, hst⟩; have n0_ := Aside0.mk hst; clear hst HS cI cO fO; have HS := n0_; clear n0_; have cI := HS.out.cellI; have cO := HS.out.cellD; have fO := HS.out.freeO))
  refine wp_loop_rounds 4 ?_
  rw [rounds_succ]
  go_wp2_with (first | ((with_reducible refine gate_store (t := 30) (p := 103) rfl ?_); refine store_event (t := 30) (p := 103) (v := ?vo17) (w1 := ?w117) ?hg17 ?ho17 ?hn17 ?hr17 ?_; (case ho17 => rfl); (case hg17 => rfl); (case hn17 => rfl); (case hr17 => (go_simp;rfl)); intro W_ hw; have n0_ := Aside0.mk (HS.out.put hw); clear hw HS cI cO fO; have HS := n0_; clear n0_; have cI := HS.out.cellI; have cO := HS.out.cellD; have fO := HS.out.freeO))
  rw [rounds_succ]
  go_wp2_with (first | ((with_reducible refine gate_store (t := 30) (p := 103) rfl ?_); refine store_event (t := 30) (p := 103) (v := ?vo18) (w1 := ?w118) ?hg18 ?ho18 ?hn18 ?hr18 ?_; (case ho18 => rfl); (case hg18 => rfl); (case hn18 => rfl); (case hr18 => (go_simp;rfl)); intro W_ hw; have n0_ := Aside0.mk (HS.out.put hw); clear hw HS cI cO fO; have HS := n0_; clear n0_; have cI := HS.out.cellI; have cO := HS.out.cellD; have fO := HS.out.freeO))
  rw [rounds_succ]
  go_wp2_with (first | ((with_reducible refine gate_store (t := 30) (p := 103) rfl ?_); refine store_event (t := 30) (p := 103) (v := ?vo19) (w1 := ?w119) ?hg19 ?ho19 ?hn19 ?hr19 ?_; (case ho19 => rfl); (case hg19 => rfl); (case hn19 => rfl); (case hr19 => (go_simp;rfl)); intro W_ hw; have n0_ := Aside0.mk (HS.out.put hw); clear hw HS cI cO fO; have HS := n0_; clear n0_; have cI := HS.out.cellI; have cO := HS.out.cellD; have fO := HS.out.freeO))
  rw [rounds_succ]
  go_wp2_with (first | ((with_reducible refine gate_store (t := 30) (p := 107) rfl ?_); refine store_event (t := 30) (p := 107) (v := ?vo20) (w1 := ?w120) ?hg20 ?ho20 ?hn20 ?hr20 ?_; (case ho20 => rfl); (case hg20 => rfl); (case hn20 => rfl); (case hr20 => (go_simp;rfl)); intro W_ hw; have n0_ := Aside0.mk (HS.out.put hw); clear hw HS cI cO fO; have HS := n0_; clear n0_; have cI := HS.out.cellI; have cO := HS.out.cellD; have fO := HS.out.freeO) | (go_at_call 40; refine (St.little HH.out HS.out (k := 5) (by rw [HL.out]; decide)).mono ?_; rintro e W_ ⟨rfl, hst⟩; have n0_ := Aside0.mk hst; clear hst HS cI cO fO; have HS := n0_; clear n0_; have cI := HS.out.cellI; have cO := HS.out.cellD; have fO := HS.out.freeO))
  refine wp_loop_rounds 4 ?_
  rw [rounds_succ]
  go_wp2_with (first | ((with_reducible refine gate_store (t := 30) (p := 122) rfl ?_); refine store_event (t := 30) (p := 122) (v := ?vo21) (w1 := ?w121) ?hg21 ?ho21 ?hn21 ?hr21 ?_; (case ho21 => rfl); (case hg21 => rfl); (case hn21 => rfl); (case hr21 => (go_simp;rfl)); intro W_ hw; have n0_ := Aside0.mk (HS.out.put hw); clear hw HS cI cO fO; have HS := n0_; clear n0_; have cI := HS.out.cellI; have cO := HS.out.cellD; have fO := HS.out.freeO))
  rw [rounds_succ]
  go_wp2_with (first | ((with_reducible refine gate_store (t := 30) (p := 122) rfl ?_); refine store_event (t := 30) (p := 122) (v := ?vo22) (w1 := ?w122) ?hg22 ?ho22 ?hn22 ?hr22 ?_; (case ho22 => rfl); (case hg22 => rfl); (case hn22 => rfl); (case hr22 => (go_simp;rfl)); intro W_ hw; have n0_ := Aside0.mk (HS.out.put hw); clear hw HS cI cO fO; have HS := n0_; clear n0_; have cI := HS.out.cellI; have cO := HS.out.cellD; have fO := HS.out.freeO))
  rw [rounds_succ]
  go_wp2_with (first | ((with_reducible refine gate_store (t := 30) (p := 122) rfl ?_); refine store_event (t := 30) (p := 122) (v := ?vo23) (w1 := ?w123) ?hg23 ?ho23 ?hn23 ?hr23 ?_; (case ho23 => rfl); (case hg23 => rfl); (case hn23 => rfl); (case hr23 => (go_simp;rfl)); intro W_ hw; have n0_ := Aside0.mk (HS.out.put hw); clear hw HS cI cO fO; have HS := n0_; clear n0_; have cI := HS.out.cellI; have cO := HS.out.cellD; have fO := HS.out.freeO))
  rw [rounds_succ]
  go_wp2_with (first | ((with_reducible refine gate_store (t := 30) (p := 126) rfl ?_); refine store_event (t := 30) (p := 126) (v := ?vo24) (w1 := ?w124) ?hg24 ?ho24 ?hn24 ?hr24 ?_; (case ho24 => rfl); (case hg24 => rfl); (case hn24 => rfl); (case hr24 => (go_simp;rfl)); intro W_ hw; have n0_ := Aside0.mk (HS.out.put hw); clear hw HS cI cO fO; have HS := n0_; clear n0_; have cI := HS.out.cellI; have cO := HS.out.cellD; have fO := HS.out.freeO) | (go_at_call 40; refine (St.little HH.out HS.out (k := 6) (by rw [HL.out]; decide)).mono ?_; rintro e W_ ⟨rfl, hst⟩; have n0_ := Aside0.mk hst; clear hst HS cI cO fO; have HS := n0_; clear n0_; have cI := HS.out.cellI; have cO := HS.out.cellD; have fO := HS.out.freeO))
  refine wp_loop_rounds 4 ?_
  rw [rounds_succ]
  go_wp2_with (first | ((with_reducible refine gate_store (t := 30) (p := 141) rfl ?_); refine store_event (t := 30) (p := 141) (v := ?vo25) (w1 := ?w125) ?hg25 ?ho25 ?hn25 ?hr25 ?_; (case ho25 => rfl); (case hg25 => rfl); (case hn25 => rfl); (case hr25 => (go_simp;rfl)); intro W_ hw; have n0_ := Aside0.mk (HS.out.put hw); clear hw HS cI cO fO; have HS := n0_; clear n0_; have cI := HS.out.cellI; have cO := HS.out.cellD; have fO := HS.out.freeO))
  rw [rounds_succ]
  go_wp2_with (first | ((with_reducible refine gate_store (t := 30) (p := 141) rfl ?_); refine store_event (t := 30) (p := 141) (v := ?vo26) (w1 := ?w126) ?hg26 ?ho26 ?hn26 ?hr26 ?_; (case ho26 => rfl); (case hg26 => rfl); (case hn26 => rfl); (case hr26 => (go_simp;rfl)); intro W_ hw; have n0_ := Aside0.mk (HS.out.put hw); clear hw HS cI cO fO; have HS := n0_; clear n0_; have cI := HS.out.cellI; have cO := HS.out.cellD; have fO := HS.out.freeO))
  rw [rounds_succ]
  go_wp2_with (first | ((with_reducible refine gate_store (t := 30) (p := 141) rfl ?_); refine store_event (t := 30) (p := 141) (v := ?vo27) (w1 := ?w127) ?hg27 ?ho27 ?hn27 ?hr27 ?_; (case ho27 => rfl); (case hg27 => rfl); (case hn27 => rfl); (case hr27 => (go_simp;rfl)); intro W_ hw; have n0_ := Aside0.mk (HS.out.put hw); clear hw HS cI cO fO; have HS := n0_; clear n0_; have cI := HS.out.cellI; have cO := HS.out.cellD; have fO := HS.out.freeO))
  rw [rounds_succ]
  go_wp2_with (first | ((with_reducible refine gate_store (t := 30) (p := 145) rfl ?_); refine store_event (t := 30) (p := 145) (v := ?vo28) (w1 := ?w128) ?hg28 ?ho28 ?hn28 ?hr28 ?_; (case ho28 => rfl); (case hg28 => rfl); (case hn28 => rfl); (case hr28 => (go_simp;rfl)); intro W_ hw; have n0_ := Aside0.mk (HS.out.put hw); clear hw HS cI cO fO; have HS := n0_; clear n0_; have cI := HS.out.cellI; have cO := HS.out.cellD; have fO := HS.out.freeO) | (go_at_call 40; refine (St.little HH.out HS.out (k := 7) (by rw [HL.out]; decide)).mono ?_; rintro e W_ ⟨rfl, hst⟩; have n0_ := Aside0.mk hst; clear hst HS cI cO fO; have HS := n0_; clear n0_; have cI := HS.out.cellI; have cO := HS.out.cellD; have fO := HS.out.freeO))
  refine wp_loop_rounds 4 ?_
  rw [rounds_succ]
  go_wp2_with (first | ((with_reducible refine gate_store (t := 30) (p := 160) rfl ?_); refine store_event (t := 30) (p := 160) (v := ?vo29) (w1 := ?w129) ?hg29 ?ho29 ?hn29 ?hr29 ?_; (case ho29 => rfl); (case hg29 => rfl); (case hn29 => rfl); (case hr29 => (go_simp;rfl)); intro W_ hw; have n0_ := Aside0.mk (HS.out.put hw); clear hw HS cI cO fO; have HS := n0_; clear n0_; have cI := HS.out.cellI; have cO := HS.out.cellD; have fO := HS.out.freeO))
  rw [rounds_succ]
  go_wp2_with (first | ((with_reducible refine gate_store (t := 30) (p := 160) rfl ?_); refine store_event (t := 30) (p := 160) (v := ?vo30) (w1 := ?w130) ?hg30 ?ho30 ?hn30 ?hr30 ?_; (case ho30 => rfl); (case hg30 => rfl); (case hn30 => rfl); (case hr30 => (go_simp;rfl)); intro W_ hw; have n0_ := Aside0.mk (HS.out.put hw); clear hw HS cI cO fO; have HS := n0_; clear n0_; have cI := HS.out.cellI; have cO := HS.out.cellD; have fO := HS.out.freeO))
  rw [rounds_succ]
  go_wp2_with (first | ((with_reducible refine gate_store (t := 30) (p := 160) rfl ?_); refine store_event (t := 30) (p := 160) (v := ?vo31) (w1 := ?w131) ?hg31 ?ho31 ?hn31 ?hr31 ?_; (case ho31 => rfl); (case hg31 => rfl); (case hn31 => rfl); (case hr31 => (go_simp;rfl)); intro W_ hw; have n0_ := Aside0.mk (HS.out.put hw); clear hw HS cI cO fO; have HS := n0_; clear n0_; have cI := HS.out.cellI; have cO := HS.out.cellD; have fO := HS.out.freeO))
  rw [rounds_succ]
  go_wp2_with (first | ((with_reducible refine gate_store (t := 30) (p := 164) rfl ?_); refine store_event (t := 30) (p := 164) (v := ?vo32) (w1 := ?w132) ?hg32 ?ho32 ?hn32 ?hr32 ?_; (case ho32 => rfl); (case hg32 => rfl); (case hn32 => rfl); (case hr32 => (go_simp;rfl)); intro W_ hw; have n0_ := Aside0.mk (HS.out.put hw); clear hw HS cI cO fO; have HS := n0_; clear n0_; have cI := HS.out.cellI; have cO := HS.out.cellD; have fO := HS.out.freeO))
  refine bodyPost_end (results_none rfl _ _ _) rfl ?_
  have hrow := HS.out.row
  simp only [List.replicate, List.set] at hrow
  have hrow2 : W_.heap[O]? = some (.cells ((lit8 l).map (Value.int .u32)).toArray 30 (0, 0)) := by unfold lit8; exact hrow
  rw [lit8_is] at hrow2
  exact ⟨rfl, hrow2, HS.out.kept, HS.out.below⟩
end Go.Proofs.YtidcmpjcghbofaaDoor.Q
