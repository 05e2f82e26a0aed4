/- The walk of the unpacking of 20 bits: what is unpacked are the fields of the bytes' number. -/
import Derived.Test.YtidcmpjcghbofaaDoorUb
import Derived.Test.YtidcmpjcghbofaaDoorUf
import Derived.Recover
import Derived.Handy
import Derived.StillTailTactics
import Derived.Laws.CopyOwn
import Derived.Deep.RegionLaw
import Derived.Test.YtidcmpjcghbofaaDoorNum
namespace Go.Proofs.YtidcmpjcghbofaaDoor.Q
open Go.RowKit Go.Proofs.YtidcmpjcghbofaaDoorW.PrintWords Go.Proofs.YtidcmpjcghbofaaDoorW.PrintLast Go.Proofs.YtidcmpjcghbofaaDoorW.PrintMore
set_option linter.unusedVariables false
set_option linter.unusedSimpArgs false
def lit20 (l : List Int) : List Int := [((word l 0 : Nat) : Int) % 1048576, bits .or .u32 (((word l 0 : Nat) : Int) / 1048576) (IntKind.u32.wrap (((word l 1 : Nat) : Int).tmod 256 * 4096)), ((word l 1 : Nat) : Int) / 256 % 1048576, bits .or .u32 (((word l 1 : Nat) : Int) / 268435456) (IntKind.u32.wrap (((word l 2 : Nat) : Int).tmod 65536 * 16)), bits .or .u32 (((word l 2 : Nat) : Int) / 65536) (IntKind.u32.wrap (((word l 3 : Nat) : Int).tmod 16 * 65536)), ((word l 3 : Nat) : Int) / 16 % 1048576, bits .or .u32 (((word l 3 : Nat) : Int) / 16777216) (IntKind.u32.wrap (((word l 4 : Nat) : Int).tmod 4096 * 256)), ((word l 4 : Nat) : Int) / 4096, ((word l 5 : Nat) : Int) % 1048576, bits .or .u32 (((word l 5 : Nat) : Int) / 1048576) (IntKind.u32.wrap (((word l 6 : Nat) : Int).tmod 256 * 4096)), ((word l 6 : Nat) : Int) / 256 % 1048576, bits .or .u32 (((word l 6 : Nat) : Int) / 268435456) (IntKind.u32.wrap (((word l 7 : Nat) : Int).tmod 65536 * 16)), bits .or .u32 (((word l 7 : Nat) : Int) / 65536) (IntKind.u32.wrap (((word l 8 : Nat) : Int).tmod 16 * 65536)), ((word l 8 : Nat) : Int) / 16 % 1048576, bits .or .u32 (((word l 8 : Nat) : Int) / 16777216) (IntKind.u32.wrap (((word l 9 : Nat) : Int).tmod 4096 * 256)), ((word l 9 : Nat) : Int) / 4096, ((word l 10 : Nat) : Int) % 1048576, bits .or .u32 (((word l 10 : Nat) : Int) / 1048576) (IntKind.u32.wrap (((word l 11 : Nat) : Int).tmod 256 * 4096)), ((word l 11 : Nat) : Int) / 256 % 1048576, bits .or .u32 (((word l 11 : Nat) : Int) / 268435456) (IntKind.u32.wrap (((word l 12 : Nat) : Int).tmod 65536 * 16)), bits .or .u32 (((word l 12 : Nat) : Int) / 65536) (IntKind.u32.wrap (((word l 13 : Nat) : Int).tmod 16 * 65536)), ((word l 13 : Nat) : Int) / 16 % 1048576, bits .or .u32 (((word l 13 : Nat) : Int) / 16777216) (IntKind.u32.wrap (((word l 14 : Nat) : Int).tmod 4096 * 256)), ((word l 14 : Nat) : Int) / 4096, ((word l 15 : Nat) : Int) % 1048576, bits .or .u32 (((word l 15 : Nat) : Int) / 1048576) (IntKind.u32.wrap (((word l 16 : Nat) : Int).tmod 256 * 4096)), ((word l 16 : Nat) : Int) / 256 % 1048576, bits .or .u32 (((word l 16 : Nat) : Int) / 268435456) (IntKind.u32.wrap (((word l 17 : Nat) : Int).tmod 65536 * 16)), bits .or .u32 (((word l 17 : Nat) : Int) / 65536) (IntKind.u32.wrap (((word l 18 : Nat) : Int).tmod 16 * 65536)), ((word l 18 : Nat) : Int) / 16 % 1048576, bits .or .u32 (((word l 18 : Nat) : Int) / 16777216) (IntKind.u32.wrap (((word l 19 : Nat) : Int).tmod 4096 * 256)), ((word l 19 : Nat) : Int) / 4096]
theorem lit20_is (l : List Int) : lit20 l = fields l 20 :=
  cons_eq (fld_first l 20 0 0 (by decide) (by decide) 1048576 (by decide)) <|
  cons_eq (fld_over l 20 1 0 20 8 (by decide) (by decide) (by decide) (by decide) (by decide) 1048576 256 4096 (by decide) (by decide) (by decide)) <|
  cons_eq (fld_in l 20 2 1 8 (by decide) (by decide) 256 1048576 (by decide) (by decide)) <|
  cons_eq (fld_over l 20 3 1 28 16 (by decide) (by decide) (by decide) (by decide) (by decide) 268435456 65536 16 (by decide) (by decide) (by decide)) <|
  cons_eq (fld_over l 20 4 2 16 4 (by decide) (by decide) (by decide) (by decide) (by decide) 65536 16 65536 (by decide) (by decide) (by decide)) <|
  cons_eq (fld_in l 20 5 3 4 (by decide) (by decide) 16 1048576 (by decide) (by decide)) <|
  cons_eq (fld_over l 20 6 3 24 12 (by decide) (by decide) (by decide) (by decide) (by decide) 16777216 4096 256 (by decide) (by decide) (by decide)) <|
  cons_eq (fld_top l 20 7 4 12 (by decide) (by decide) 4096 (by decide)) <|
  cons_eq (fld_first l 20 8 5 (by decide) (by decide) 1048576 (by decide)) <|
  cons_eq (fld_over l 20 9 5 20 8 (by decide) (by decide) (by decide) (by decide) (by decide) 1048576 256 4096 (by decide) (by decide) (by decide)) <|
  cons_eq (fld_in l 20 10 6 8 (by decide) (by decide) 256 1048576 (by decide) (by decide)) <|
  cons_eq (fld_over l 20 11 6 28 16 (by decide) (by decide) (by decide) (by decide) (by decide) 268435456 65536 16 (by decide) (by decide) (by decide)) <|
  cons_eq (fld_over l 20 12 7 16 4 (by decide) (by decide) (by decide) (by decide) (by decide) 65536 16 65536 (by decide) (by decide) (by decide)) <|
  cons_eq (fld_in l 20 13 8 4 (by decide) (by decide) 16 1048576 (by decide) (by decide)) <|
  cons_eq (fld_over l 20 14 8 24 12 (by decide) (by decide) (by decide) (by decide) (by decide) 16777216 4096 256 (by decide) (by decide) (by decide)) <|
  cons_eq (fld_top l 20 15 9 12 (by decide) (by decide) 4096 (by decide)) <|
  cons_eq (fld_first l 20 16 10 (by decide) (by decide) 1048576 (by decide)) <|
  cons_eq (fld_over l 20 17 10 20 8 (by decide) (by decide) (by decide) (by decide) (by decide) 1048576 256 4096 (by decide) (by decide) (by decide)) <|
  cons_eq (fld_in l 20 18 11 8 (by decide) (by decide) 256 1048576 (by decide) (by decide)) <|
  cons_eq (fld_over l 20 19 11 28 16 (by decide) (by decide) (by decide) (by decide) (by decide) 268435456 65536 16 (by decide) (by decide) (by decide)) <|
  cons_eq (fld_over l 20 20 12 16 4 (by decide) (by decide) (by decide) (by decide) (by decide) 65536 16 65536 (by decide) (by decide) (by decide)) <|
  cons_eq (fld_in l 20 21 13 4 (by decide) (by decide) 16 1048576 (by decide) (by decide)) <|
  cons_eq (fld_over l 20 22 13 24 12 (by decide) (by decide) (by decide) (by decide) (by decide) 16777216 4096 256 (by decide) (by decide) (by decide)) <|
  cons_eq (fld_top l 20 23 14 12 (by decide) (by decide) 4096 (by decide)) <|
  cons_eq (fld_first l 20 24 15 (by decide) (by decide) 1048576 (by decide)) <|
  cons_eq (fld_over l 20 25 15 20 8 (by decide) (by decide) (by decide) (by decide) (by decide) 1048576 256 4096 (by decide) (by decide) (by decide)) <|
  cons_eq (fld_in l 20 26 16 8 (by decide) (by decide) 256 1048576 (by decide) (by decide)) <|
  cons_eq (fld_over l 20 27 16 28 16 (by decide) (by decide) (by decide) (by decide) (by decide) 268435456 65536 16 (by decide) (by decide) (by decide)) <|
  cons_eq (fld_over l 20 28 17 16 4 (by decide) (by decide) (by decide) (by decide) (by decide) 65536 16 65536 (by decide) (by decide) (by decide)) <|
  cons_eq (fld_in l 20 29 18 4 (by decide) (by decide) 16 1048576 (by decide) (by decide)) <|
  cons_eq (fld_over l 20 30 18 24 12 (by decide) (by decide) (by decide) (by decide) (by decide) 16777216 4096 256 (by decide) (by decide) (by decide)) <|
  cons_eq (fld_top l 20 31 19 12 (by decide) (by decide) 4096 (by decide)) <| rfl
set_option maxHeartbeats 8000000 in
set_option maxRecDepth 100000 in
theorem unpack20_32.calls (R O : Nat) (ad : Addr) (c : Nat) (q : Int) (l : List Int) (w : World) (hl : l.length = 80) (H : Src w R O ad c l)
    (hR : w.heap[R]? = some (.cells #[.slice (some ad) l.length c, .int .i64 0, .int .i64 q] 43 (0, 0)))
    (hO : w.heap[O]? = some (.cells ((List.replicate 32 (0 : Int)).map (Value.int .u32)).toArray 30 (0, 0))) (hne : R ≠ O) :
    Calls Tryd.prog 39 #[.iface 34 (.pointer (some ⟨R, 0, none⟩)), .slice (some ⟨O, 0, none⟩) 32 32] w fun e w' => e = .returned (.tuple #[]) ∧
      w'.heap[O]? = some (.cells ((fields l 20).map (Value.int .u32)).toArray 30 (0, 0)) ∧ Kept w w' (fun k => k = R ∨ k = O) ∧ Below (min R O) w w' := by
  have HS := Aside0.mk (St.start hR hO hne (by simp))
  have HH := Aside0.mk H
  have HL := Aside0.mk hl
  have cI := HS.out.cellI
  have cO := HS.out.cellD
  have fO := HS.out.freeO
  clear H hR hO hl
  go_enter Tryd.func39, Tryd.ntmps39
  go_wp2_with (first | (go_at_call 40; refine (St.little HH.out HS.out (k := 0) (by rw [HL.out]; decide)).mono ?_; rintro e W_ ⟨rfl, hst⟩; have n0_ := Aside0.mk hst; clear hst HS cI cO fO; have HS := n0_; clear n0_; have cI := HS.out.cellI; have cO := HS.out.cellD; have fO := HS.out.freeO) | ((with_reducible refine gate_store (t := 30) (p := 11) rfl ?_); refine store_event (t := 30) (p := 11) (v := ?vo11) (w1 := ?w111) ?hg11 ?ho11 ?hn11 ?hr11 ?_; (case ho11 => rfl); (case hg11 => rfl); (case hn11 => rfl); (case hr11 => (go_simp;rfl)); intro W_ hw; have n0_ := Aside0.mk (HS.out.put hw); clear hw HS cI cO fO; have HS := n0_; clear n0_; have cI := HS.out.cellI; have cO := HS.out.cellD; have fO := HS.out.freeO) | ((with_reducible refine gate_store (t := 30) (p := 15) rfl ?_); refine store_event (t := 30) (p := 15) (v := ?vo15) (w1 := ?w115) ?hg15 ?ho15 ?hn15 ?hr15 ?_; (case ho15 => rfl); (case hg15 => rfl); (case hn15 => rfl); (case hr15 => (go_simp;rfl)); intro W_ hw; have n0_ := Aside0.mk (HS.out.put hw); clear hw HS cI cO fO; have HS := n0_; clear n0_; have cI := HS.out.cellI; have cO := HS.out.cellD; have fO := HS.out.freeO) | (go_at_call 40; refine (St.little HH.out HS.out (k := 1) (by rw [HL.out]; decide)).mono ?_; rintro e W_ ⟨rfl, hst⟩; have n0_ := Aside0.mk hst; clear hst HS cI cO fO; have HS := n0_; clear n0_; have cI := HS.out.cellI; have cO := HS.out.cellD; have fO := HS.out.freeO))
  go_still_tail 8, (by kernel_rfl)
  change wpList _ _ _ _ _ W_.drew
  have n0_ := Aside0.mk HS.out.drew
  clear HS cI cO fO
  generalize W_.drew = W_ at n0_ ⊢
  have HS := n0_
  clear n0_
  have cI := HS.out.cellI
  have cO := HS.out.cellD
  have fO := HS.out.freeO
  refine store_event (t := 30) (p := 25) (v := ?vo25) (w1 := ?w125) ?hg25 ?ho25 ?hn25 ?hr25 ?_
  (case ho25 => rfl)
  (case hg25 => rfl)
  (case hn25 => rfl)
  (case hr25 => (go_simp;rfl))
  intro W_ hw
  have n0_ := Aside0.mk (HS.out.put hw)
  clear hw HS cI cO fO
  have HS := n0_
  clear n0_
  have cI := HS.out.cellI
  have cO := HS.out.cellD
  have fO := HS.out.freeO
  go_wp2_with (first | ((with_reducible refine gate_store (t := 30) (p := 30) rfl ?_); refine store_event (t := 30) (p := 30) (v := ?vo30) (w1 := ?w130) ?hg30 ?ho30 ?hn30 ?hr30 ?_; (case ho30 => rfl); (case hg30 => rfl); (case hn30 => rfl); (case hr30 => (go_simp;rfl)); intro W_ hw; have n0_ := Aside0.mk (HS.out.put hw); clear hw HS cI cO fO; have HS := n0_; clear n0_; have cI := HS.out.cellI; have cO := HS.out.cellD; have fO := HS.out.freeO) | ((with_reducible refine gate_store (t := 30) (p := 34) rfl ?_); refine store_event (t := 30) (p := 34) (v := ?vo34) (w1 := ?w134) ?hg34 ?ho34 ?hn34 ?hr34 ?_; (case ho34 => rfl); (case hg34 => rfl); (case hn34 => rfl); (case hr34 => (go_simp;rfl)); intro W_ hw; have n0_ := Aside0.mk (HS.out.put hw); clear hw HS cI cO fO; have HS := n0_; clear n0_; have cI := HS.out.cellI; have cO := HS.out.cellD; have fO := HS.out.freeO) | (go_at_call 40; refine (St.little HH.out HS.out (k := 2) (by rw [HL.out]; decide)).mono ?_; rintro e W_ ⟨rfl, hst⟩; have n0_ := Aside0.mk hst; clear hst HS cI cO fO; have HS := n0_; clear n0_; have cI := HS.out.cellI; have cO := HS.out.cellD; have fO := HS.out.freeO))
  go_still_tail 8, (by kernel_rfl)
  change wpList _ _ _ _ _ W_.drew
  have n0_ := Aside0.mk HS.out.drew
  clear HS cI cO fO
  generalize W_.drew = W_ at n0_ ⊢
  have HS := n0_
  clear n0_
  have cI := HS.out.cellI
  have cO := HS.out.cellD
  have fO := HS.out.freeO
  refine store_event (t := 30) (p := 44) (v := ?vo44) (w1 := ?w144) ?hg44 ?ho44 ?hn44 ?hr44 ?_
  (case ho44 => rfl)
  (case hg44 => rfl)
  (case hn44 => rfl)
  (case hr44 => (go_simp;rfl))
  intro W_ hw
  have n0_ := Aside0.mk (HS.out.put hw)
  clear hw HS cI cO fO
  have HS := n0_
  clear n0_
  have cI := HS.out.cellI
  have cO := HS.out.cellD
  have fO := HS.out.freeO
  go_wp2_with (first | ((with_reducible refine gate_store (t := 30) (p := 48) rfl ?_); refine store_event (t := 30) (p := 48) (v := ?vo48) (w1 := ?w148) ?hg48 ?ho48 ?hn48 ?hr48 ?_; (case ho48 => rfl); (case hg48 => rfl); (case hn48 => rfl); (case hr48 => (go_simp;rfl)); intro W_ hw; have n0_ := Aside0.mk (HS.out.put hw); clear hw HS cI cO fO; have HS := n0_; clear n0_; have cI := HS.out.cellI; have cO := HS.out.cellD; have fO := HS.out.freeO) | (go_at_call 40; refine (St.little HH.out HS.out (k := 3) (by rw [HL.out]; decide)).mono ?_; rintro e W_ ⟨rfl, hst⟩; have n0_ := Aside0.mk hst; clear hst HS cI cO fO; have HS := n0_; clear n0_; have cI := HS.out.cellI; have cO := HS.out.cellD; have fO := HS.out.freeO))
  go_still_tail 8, (by kernel_rfl)
  change wpList _ _ _ _ _ W_.drew
  have n0_ := Aside0.mk HS.out.drew
  clear HS cI cO fO
  generalize W_.drew = W_ at n0_ ⊢
  have HS := n0_
  clear n0_
  have cI := HS.out.cellI
  have cO := HS.out.cellD
  have fO := HS.out.freeO
  refine store_event (t := 30) (p := 58) (v := ?vo58) (w1 := ?w158) ?hg58 ?ho58 ?hn58 ?hr58 ?_
  (case ho58 => rfl)
  (case hg58 => rfl)
  (case hn58 => rfl)
  (case hr58 => (go_simp;rfl))
  intro W_ hw
  have n0_ := Aside0.mk (HS.out.put hw)
  clear hw HS cI cO fO
  have HS := n0_
  clear n0_
  have cI := HS.out.cellI
  have cO := HS.out.cellD
  have fO := HS.out.freeO
  go_wp2_with (first | ((with_reducible refine gate_store (t := 30) (p := 63) rfl ?_); refine store_event (t := 30) (p := 63) (v := ?vo63) (w1 := ?w163) ?hg63 ?ho63 ?hn63 ?hr63 ?_; (case ho63 => rfl); (case hg63 => rfl); (case hn63 => rfl); (case hr63 => (go_simp;rfl)); intro W_ hw; have n0_ := Aside0.mk (HS.out.put hw); clear hw HS cI cO fO; have HS := n0_; clear n0_; have cI := HS.out.cellI; have cO := HS.out.cellD; have fO := HS.out.freeO) | ((with_reducible refine gate_store (t := 30) (p := 67) rfl ?_); refine store_event (t := 30) (p := 67) (v := ?vo67) (w1 := ?w167) ?hg67 ?ho67 ?hn67 ?hr67 ?_; (case ho67 => rfl); (case hg67 => rfl); (case hn67 => rfl); (case hr67 => (go_simp;rfl)); intro W_ hw; have n0_ := Aside0.mk (HS.out.put hw); clear hw HS cI cO fO; have HS := n0_; clear n0_; have cI := HS.out.cellI; have cO := HS.out.cellD; have fO := HS.out.freeO) | (go_at_call 40; refine (St.little HH.out HS.out (k := 4) (by rw [HL.out]; decide)).mono ?_; rintro e W_ ⟨rfl, hst⟩; have n0_ := Aside0.mk hst; clear hst HS cI cO fO; have HS := n0_; clear n0_; have cI := HS.out.cellI; have cO := HS.out.cellD; have fO := HS.out.freeO))
  go_still_tail 8, (by kernel_rfl)
  change wpList _ _ _ _ _ W_.drew
  have n0_ := Aside0.mk HS.out.drew
  clear HS cI cO fO
  generalize W_.drew = W_ at n0_ ⊢
  have HS := n0_
  clear n0_
  have cI := HS.out.cellI
  have cO := HS.out.cellD
  have fO := HS.out.freeO
  refine store_event (t := 30) (p := 77) (v := ?vo77) (w1 := ?w177) ?hg77 ?ho77 ?hn77 ?hr77 ?_
  (case ho77 => rfl)
  (case hg77 => rfl)
  (case hn77 => rfl)
  (case hr77 => (go_simp;rfl))
  intro W_ hw
  have n0_ := Aside0.mk (HS.out.put hw)
  clear hw HS cI cO fO
  have HS := n0_
  clear n0_
  have cI := HS.out.cellI
  have cO := HS.out.cellD
  have fO := HS.out.freeO
  go_wp2_with (first | ((with_reducible refine gate_store (t := 30) (p := 81) rfl ?_); refine store_event (t := 30) (p := 81) (v := ?vo81) (w1 := ?w181) ?hg81 ?ho81 ?hn81 ?hr81 ?_; (case ho81 => rfl); (case hg81 => rfl); (case hn81 => rfl); (case hr81 => (go_simp;rfl)); intro W_ hw; have n0_ := Aside0.mk (HS.out.put hw); clear hw HS cI cO fO; have HS := n0_; clear n0_; have cI := HS.out.cellI; have cO := HS.out.cellD; have fO := HS.out.freeO) | (go_at_call 40; refine (St.little HH.out HS.out (k := 5) (by rw [HL.out]; decide)).mono ?_; rintro e W_ ⟨rfl, hst⟩; have n0_ := Aside0.mk hst; clear hst HS cI cO fO; have HS := n0_; clear n0_; have cI := HS.out.cellI; have cO := HS.out.cellD; have fO := HS.out.freeO) | ((with_reducible refine gate_store (t := 30) (p := 88) rfl ?_); refine store_event (t := 30) (p := 88) (v := ?vo88) (w1 := ?w188) ?hg88 ?ho88 ?hn88 ?hr88 ?_; (case ho88 => rfl); (case hg88 => rfl); (case hn88 => rfl); (case hr88 => (go_simp;rfl)); intro W_ hw; have n0_ := Aside0.mk (HS.out.put hw); clear hw HS cI cO fO; have HS := n0_; clear n0_; have cI := HS.out.cellI; have cO := HS.out.cellD; have fO := HS.out.freeO) | ((with_reducible refine gate_store (t := 30) (p := 92) rfl ?_); refine store_event (t := 30) (p := 92) (v := ?vo92) (w1 := ?w192) ?hg92 ?ho92 ?hn92 ?hr92 ?_; (case ho92 => rfl); (case hg92 => rfl); (case hn92 => rfl); (case hr92 => (go_simp;rfl)); intro W_ hw; have n0_ := Aside0.mk (HS.out.put hw); clear hw HS cI cO fO; have HS := n0_; clear n0_; have cI := HS.out.cellI; have cO := HS.out.cellD; have fO := HS.out.freeO) | (go_at_call 40; refine (St.little HH.out HS.out (k := 6) (by rw [HL.out]; decide)).mono ?_; rintro e W_ ⟨rfl, hst⟩; have n0_ := Aside0.mk hst; clear hst HS cI cO fO; have HS := n0_; clear n0_; have cI := HS.out.cellI; have cO := HS.out.cellD; have fO := HS.out.freeO))
  go_still_tail 8, (by kernel_rfl)
  change wpList _ _ _ _ _ W_.drew
  have n0_ := Aside0.mk HS.out.drew
  clear HS cI cO fO
  generalize W_.drew = W_ at n0_ ⊢
  have HS := n0_
  clear n0_
  have cI := HS.out.cellI
  have cO := HS.out.cellD
  have fO := HS.out.freeO
  refine store_event (t := 30) (p := 102) (v := ?vo102) (w1 := ?w1102) ?hg102 ?ho102 ?hn102 ?hr102 ?_
  (case ho102 => rfl)
  (case hg102 => rfl)
  (case hn102 => rfl)
  (case hr102 => (go_simp;rfl))
  intro W_ hw
  have n0_ := Aside0.mk (HS.out.put hw)
  clear hw HS cI cO fO
  have HS := n0_
  clear n0_
  have cI := HS.out.cellI
  have cO := HS.out.cellD
  have fO := HS.out.freeO
  go_wp2_with (first | ((with_reducible refine gate_store (t := 30) (p := 107) rfl ?_); refine store_event (t := 30) (p := 107) (v := ?vo107) (w1 := ?w1107) ?hg107 ?ho107 ?hn107 ?hr107 ?_; (case ho107 => rfl); (case hg107 => rfl); (case hn107 => rfl); (case hr107 => (go_simp;rfl)); intro W_ hw; have n0_ := Aside0.mk (HS.out.put hw); clear hw HS cI cO fO; have HS := n0_; clear n0_; have cI := HS.out.cellI; have cO := HS.out.cellD; have fO := HS.out.freeO) | ((with_reducible refine gate_store (t := 30) (p := 111) rfl ?_); refine store_event (t := 30) (p := 111) (v := ?vo111) (w1 := ?w1111) ?hg111 ?ho111 ?hn111 ?hr111 ?_; (case ho111 => rfl); (case hg111 => rfl); (case hn111 => rfl); (case hr111 => (go_simp;rfl)); intro W_ hw; have n0_ := Aside0.mk (HS.out.put hw); clear hw HS cI cO fO; have HS := n0_; clear n0_; have cI := HS.out.cellI; have cO := HS.out.cellD; have fO := HS.out.freeO) | (go_at_call 40; refine (St.little HH.out HS.out (k := 7) (by rw [HL.out]; decide)).mono ?_; rintro e W_ ⟨rfl, hst⟩; have n0_ := Aside0.mk hst; clear hst HS cI cO fO; have HS := n0_; clear n0_; have cI := HS.out.cellI; have cO := HS.out.cellD; have fO := HS.out.freeO))
  go_still_tail 8, (by kernel_rfl)
  change wpList _ _ _ _ _ W_.drew
  have n0_ := Aside0.mk HS.out.drew
  clear HS cI cO fO
  generalize W_.drew = W_ at n0_ ⊢
  have HS := n0_
  clear n0_
  have cI := HS.out.cellI
  have cO := HS.out.cellD
  have fO := HS.out.freeO
  refine store_event (t := 30) (p := 121) (v := ?vo121) (w1 := ?w1121) ?hg121 ?ho121 ?hn121 ?hr121 ?_
  (case ho121 => rfl)
  (case hg121 => rfl)
  (case hn121 => rfl)
  (case hr121 => (go_simp;rfl))
  intro W_ hw
  have n0_ := Aside0.mk (HS.out.put hw)
  clear hw HS cI cO fO
  have HS := n0_
  clear n0_
  have cI := HS.out.cellI
  have cO := HS.out.cellD
  have fO := HS.out.freeO
  go_wp2_with (first | ((with_reducible refine gate_store (t := 30) (p := 125) rfl ?_); refine store_event (t := 30) (p := 125) (v := ?vo125) (w1 := ?w1125) ?hg125 ?ho125 ?hn125 ?hr125 ?_; (case ho125 => rfl); (case hg125 => rfl); (case hn125 => rfl); (case hr125 => (go_simp;rfl)); intro W_ hw; have n0_ := Aside0.mk (HS.out.put hw); clear hw HS cI cO fO; have HS := n0_; clear n0_; have cI := HS.out.cellI; have cO := HS.out.cellD; have fO := HS.out.freeO) | (go_at_call 40; refine (St.little HH.out HS.out (k := 8) (by rw [HL.out]; decide)).mono ?_; rintro e W_ ⟨rfl, hst⟩; have n0_ := Aside0.mk hst; clear hst HS cI cO fO; have HS := n0_; clear n0_; have cI := HS.out.cellI; have cO := HS.out.cellD; have fO := HS.out.freeO))
  go_still_tail 8, (by kernel_rfl)
  change wpList _ _ _ _ _ W_.drew
  have n0_ := Aside0.mk HS.out.drew
  clear HS cI cO fO
  generalize W_.drew = W_ at n0_ ⊢
  have HS := n0_
  clear n0_
  have cI := HS.out.cellI
  have cO := HS.out.cellD
  have fO := HS.out.freeO
  refine store_event (t := 30) (p := 135) (v := ?vo135) (w1 := ?w1135) ?hg135 ?ho135 ?hn135 ?hr135 ?_
  (case ho135 => rfl)
  (case hg135 => rfl)
  (case hn135 => rfl)
  (case hr135 => (go_simp;rfl))
  intro W_ hw
  have n0_ := Aside0.mk (HS.out.put hw)
  clear hw HS cI cO fO
  have HS := n0_
  clear n0_
  have cI := HS.out.cellI
  have cO := HS.out.cellD
  have fO := HS.out.freeO
  go_wp2_with (first | ((with_reducible refine gate_store (t := 30) (p := 140) rfl ?_); refine store_event (t := 30) (p := 140) (v := ?vo140) (w1 := ?w1140) ?hg140 ?ho140 ?hn140 ?hr140 ?_; (case ho140 => rfl); (case hg140 => rfl); (case hn140 => rfl); (case hr140 => (go_simp;rfl)); intro W_ hw; have n0_ := Aside0.mk (HS.out.put hw); clear hw HS cI cO fO; have HS := n0_; clear n0_; have cI := HS.out.cellI; have cO := HS.out.cellD; have fO := HS.out.freeO) | ((with_reducible refine gate_store (t := 30) (p := 144) rfl ?_); refine store_event (t := 30) (p := 144) (v := ?vo144) (w1 := ?w1144) ?hg144 ?ho144 ?hn144 ?hr144 ?_; (case ho144 => rfl); (case hg144 => rfl); (case hn144 => rfl); (case hr144 => (go_simp;rfl)); intro W_ hw; have n0_ := Aside0.mk (HS.out.put hw); clear hw HS cI cO fO; have HS := n0_; clear n0_; have cI := HS.out.cellI; have cO := HS.out.cellD; have fO := HS.out.freeO) | (go_at_call 40; refine (St.little HH.out HS.out (k := 9) (by rw [HL.out]; decide)).mono ?_; rintro e W_ ⟨rfl, hst⟩; have n0_ := Aside0.mk hst; clear hst HS cI cO fO; have HS := n0_; clear n0_; have cI := HS.out.cellI; have cO := HS.out.cellD; have fO := HS.out.freeO))
  go_still_tail 8, (by kernel_rfl)
  change wpList _ _ _ _ _ W_.drew
  have n0_ := Aside0.mk HS.out.drew
  clear HS cI cO fO
  generalize W_.drew = W_ at n0_ ⊢
  have HS := n0_
  clear n0_
  have cI := HS.out.cellI
  have cO := HS.out.cellD
  have fO := HS.out.freeO
  refine store_event (t := 30) (p := 154) (v := ?vo154) (w1 := ?w1154) ?hg154 ?ho154 ?hn154 ?hr154 ?_
  (case ho154 => rfl)
  (case hg154 => rfl)
  (case hn154 => rfl)
  (case hr154 => (go_simp;rfl))
  intro W_ hw
  have n0_ := Aside0.mk (HS.out.put hw)
  clear hw HS cI cO fO
  have HS := n0_
  clear n0_
  have cI := HS.out.cellI
  have cO := HS.out.cellD
  have fO := HS.out.freeO
  go_wp2_with (first | ((with_reducible refine gate_store (t := 30) (p := 158) rfl ?_); refine store_event (t := 30) (p := 158) (v := ?vo158) (w1 := ?w1158) ?hg158 ?ho158 ?hn158 ?hr158 ?_; (case ho158 => rfl); (case hg158 => rfl); (case hn158 => rfl); (case hr158 => (go_simp;rfl)); intro W_ hw; have n0_ := Aside0.mk (HS.out.put hw); clear hw HS cI cO fO; have HS := n0_; clear n0_; have cI := HS.out.cellI; have cO := HS.out.cellD; have fO := HS.out.freeO) | (go_at_call 40; refine (St.little HH.out HS.out (k := 10) (by rw [HL.out]; decide)).mono ?_; rintro e W_ ⟨rfl, hst⟩; have n0_ := Aside0.mk hst; clear hst HS cI cO fO; have HS := n0_; clear n0_; have cI := HS.out.cellI; have cO := HS.out.cellD; have fO := HS.out.freeO) | ((with_reducible refine gate_store (t := 30) (p := 165) rfl ?_); refine store_event (t := 30) (p := 165) (v := ?vo165) (w1 := ?w1165) ?hg165 ?ho165 ?hn165 ?hr165 ?_; (case ho165 => rfl); (case hg165 => rfl); (case hn165 => rfl); (case hr165 => (go_simp;rfl)); intro W_ hw; have n0_ := Aside0.mk (HS.out.put hw); clear hw HS cI cO fO; have HS := n0_; clear n0_; have cI := HS.out.cellI; have cO := HS.out.cellD; have fO := HS.out.freeO) | ((with_reducible refine gate_store (t := 30) (p := 169) rfl ?_); refine store_event (t := 30) (p := 169) (v := ?vo169) (w1 := ?w1169) ?hg169 ?ho169 ?hn169 ?hr169 ?_; (case ho169 => rfl); (case hg169 => rfl); (case hn169 => rfl); (case hr169 => (go_simp;rfl)); intro W_ hw; have n0_ := Aside0.mk (HS.out.put hw); clear hw HS cI cO fO; have HS := n0_; clear n0_; have cI := HS.out.cellI; have cO := HS.out.cellD; have fO := HS.out.freeO) | (go_at_call 40; refine (St.little HH.out HS.out (k := 11) (by rw [HL.out]; decide)).mono ?_; rintro e W_ ⟨rfl, hst⟩; have n0_ := Aside0.mk hst; clear hst HS cI cO fO; have HS := n0_; clear n0_; have cI := HS.out.cellI; have cO := HS.out.cellD; have fO := HS.out.freeO))
  go_still_tail 8, (by kernel_rfl)
  change wpList _ _ _ _ _ W_.drew
  have n0_ := Aside0.mk HS.out.drew
  clear HS cI cO fO
  generalize W_.drew = W_ at n0_ ⊢
  have HS := n0_
  clear n0_
  have cI := HS.out.cellI
  have cO := HS.out.cellD
  have fO := HS.out.freeO
  refine store_event (t := 30) (p := 179) (v := ?vo179) (w1 := ?w1179) ?hg179 ?ho179 ?hn179 ?hr179 ?_
  (case ho179 => rfl)
  (case hg179 => rfl)
  (case hn179 => rfl)
  (case hr179 => (go_simp;rfl))
  intro W_ hw
  have n0_ := Aside0.mk (HS.out.put hw)
  clear hw HS cI cO fO
  have HS := n0_
  clear n0_
  have cI := HS.out.cellI
  have cO := HS.out.cellD
  have fO := HS.out.freeO
  go_wp2_with (first | ((with_reducible refine gate_store (t := 30) (p := 184) rfl ?_); refine store_event (t := 30) (p := 184) (v := ?vo184) (w1 := ?w1184) ?hg184 ?ho184 ?hn184 ?hr184 ?_; (case ho184 => rfl); (case hg184 => rfl); (case hn184 => rfl); (case hr184 => (go_simp;rfl)); intro W_ hw; have n0_ := Aside0.mk (HS.out.put hw); clear hw HS cI cO fO; have HS := n0_; clear n0_; have cI := HS.out.cellI; have cO := HS.out.cellD; have fO := HS.out.freeO) | ((with_reducible refine gate_store (t := 30) (p := 188) rfl ?_); refine store_event (t := 30) (p := 188) (v := ?vo188) (w1 := ?w1188) ?hg188 ?ho188 ?hn188 ?hr188 ?_; (case ho188 => rfl); (case hg188 => rfl); (case hn188 => rfl); (case hr188 => (go_simp;rfl)); intro W_ hw; have n0_ := Aside0.mk (HS.out.put hw); clear hw HS cI cO fO; have HS := n0_; clear n0_; have cI := HS.out.cellI; have cO := HS.out.cellD; have fO := HS.out.freeO) | (go_at_call 40; refine (St.little HH.out HS.out (k := 12) (by rw [HL.out]; decide)).mono ?_; rintro e W_ ⟨rfl, hst⟩; have n0_ := Aside0.mk hst; clear hst HS cI cO fO; have HS := n0_; clear n0_; have cI := HS.out.cellI; have cO := HS.out.cellD; have fO := HS.out.freeO))
  go_still_tail 8, (by kernel_rfl)
  change wpList _ _ _ _ _ W_.drew
  have n0_ := Aside0.mk HS.out.drew
  clear HS cI cO fO
  generalize W_.drew = W_ at n0_ ⊢
  have HS := n0_
  clear n0_
  have cI := HS.out.cellI
  have cO := HS.out.cellD
  have fO := HS.out.freeO
  refine store_event (t := 30) (p := 198) (v := ?vo198) (w1 := ?w1198) ?hg198 ?ho198 ?hn198 ?hr198 ?_
  (case ho198 => rfl)
  (case hg198 => rfl)
  (case hn198 => rfl)
  (case hr198 => (go_simp;rfl))
  intro W_ hw
  have n0_ := Aside0.mk (HS.out.put hw)
  clear hw HS cI cO fO
  have HS := n0_
  clear n0_
  have cI := HS.out.cellI
  have cO := HS.out.cellD
  have fO := HS.out.freeO
  go_wp2_with (first | ((with_reducible refine gate_store (t := 30) (p := 202) rfl ?_); refine store_event (t := 30) (p := 202) (v := ?vo202) (w1 := ?w1202) ?hg202 ?ho202 ?hn202 ?hr202 ?_; (case ho202 => rfl); (case hg202 => rfl); (case hn202 => rfl); (case hr202 => (go_simp;rfl)); intro W_ hw; have n0_ := Aside0.mk (HS.out.put hw); clear hw HS cI cO fO; have HS := n0_; clear n0_; have cI := HS.out.cellI; have cO := HS.out.cellD; have fO := HS.out.freeO) | (go_at_call 40; refine (St.little HH.out HS.out (k := 13) (by rw [HL.out]; decide)).mono ?_; rintro e W_ ⟨rfl, hst⟩; have n0_ := Aside0.mk hst; clear hst HS cI cO fO; have HS := n0_; clear n0_; have cI := HS.out.cellI; have cO := HS.out.cellD; have fO := HS.out.freeO))
  go_still_tail 8, (by kernel_rfl)
  change wpList _ _ _ _ _ W_.drew
  have n0_ := Aside0.mk HS.out.drew
  clear HS cI cO fO
  generalize W_.drew = W_ at n0_ ⊢
  have HS := n0_
  clear n0_
  have cI := HS.out.cellI
  have cO := HS.out.cellD
  have fO := HS.out.freeO
  refine store_event (t := 30) (p := 212) (v := ?vo212) (w1 := ?w1212) ?hg212 ?ho212 ?hn212 ?hr212 ?_
  (case ho212 => rfl)
  (case hg212 => rfl)
  (case hn212 => rfl)
  (case hr212 => (go_simp;rfl))
  intro W_ hw
  have n0_ := Aside0.mk (HS.out.put hw)
  clear hw HS cI cO fO
  have HS := n0_
  clear n0_
  have cI := HS.out.cellI
  have cO := HS.out.cellD
  have fO := HS.out.freeO
  go_wp2_with (first | ((with_reducible refine gate_store (t := 30) (p := 217) rfl ?_); refine store_event (t := 30) (p := 217) (v := ?vo217) (w1 := ?w1217) ?hg217 ?ho217 ?hn217 ?hr217 ?_; (case ho217 => rfl); (case hg217 => rfl); (case hn217 => rfl); (case hr217 => (go_simp;rfl)); intro W_ hw; have n0_ := Aside0.mk (HS.out.put hw); clear hw HS cI cO fO; have HS := n0_; clear n0_; have cI := HS.out.cellI; have cO := HS.out.cellD; have fO := HS.out.freeO) | ((with_reducible refine gate_store (t := 30) (p := 221) rfl ?_); refine store_event (t := 30) (p := 221) (v := ?vo221) (w1 := ?w1221) ?hg221 ?ho221 ?hn221 ?hr221 ?_; (case ho221 => rfl); (case hg221 => rfl); (case hn221 => rfl); (case hr221 => (go_simp;rfl)); intro W_ hw; have n0_ := Aside0.mk (HS.out.put hw); clear hw HS cI cO fO; have HS := n0_; clear n0_; have cI := HS.out.cellI; have cO := HS.out.cellD; have fO := HS.out.freeO) | (go_at_call 40; refine (St.little HH.out HS.out (k := 14) (by rw [HL.out]; decide)).mono ?_; rintro e W_ ⟨rfl, hst⟩; have n0_ := Aside0.mk hst; clear hst HS cI cO fO; have HS := n0_; clear n0_; have cI := HS.out.cellI; have cO := HS.out.cellD; have fO := HS.out.freeO))
  go_still_tail 8, (by kernel_rfl)
  change wpList _ _ _ _ _ W_.drew
  have n0_ := Aside0.mk HS.out.drew
  clear HS cI cO fO
  generalize W_.drew = W_ at n0_ ⊢
  have HS := n0_
  clear n0_
  have cI := HS.out.cellI
  have cO := HS.out.cellD
  have fO := HS.out.freeO
  refine store_event (t := 30) (p := 231) (v := ?vo231) (w1 := ?w1231) ?hg231 ?ho231 ?hn231 ?hr231 ?_
  (case ho231 => rfl)
  (case hg231 => rfl)
  (case hn231 => rfl)
  (case hr231 => (go_simp;rfl))
  intro W_ hw
  have n0_ := Aside0.mk (HS.out.put hw)
  clear hw HS cI cO fO
  have HS := n0_
  clear n0_
  have cI := HS.out.cellI
  have cO := HS.out.cellD
  have fO := HS.out.freeO
  go_wp2_with (first | ((with_reducible refine gate_store (t := 30) (p := 235) rfl ?_); refine store_event (t := 30) (p := 235) (v := ?vo235) (w1 := ?w1235) ?hg235 ?ho235 ?hn235 ?hr235 ?_; (case ho235 => rfl); (case hg235 => rfl); (case hn235 => rfl); (case hr235 => (go_simp;rfl)); intro W_ hw; have n0_ := Aside0.mk (HS.out.put hw); clear hw HS cI cO fO; have HS := n0_; clear n0_; have cI := HS.out.cellI; have cO := HS.out.cellD; have fO := HS.out.freeO) | (go_at_call 40; refine (St.little HH.out HS.out (k := 15) (by rw [HL.out]; decide)).mono ?_; rintro e W_ ⟨rfl, hst⟩; have n0_ := Aside0.mk hst; clear hst HS cI cO fO; have HS := n0_; clear n0_; have cI := HS.out.cellI; have cO := HS.out.cellD; have fO := HS.out.freeO) | ((with_reducible refine gate_store (t := 30) (p := 242) rfl ?_); refine store_event (t := 30) (p := 242) (v := ?vo242) (w1 := ?w1242) ?hg242 ?ho242 ?hn242 ?hr242 ?_; (case ho242 => rfl); (case hg242 => rfl); (case hn242 => rfl); (case hr242 => (go_simp;rfl)); intro W_ hw; have n0_ := Aside0.mk (HS.out.put hw); clear hw HS cI cO fO; have HS := n0_; clear n0_; have cI := HS.out.cellI; have cO := HS.out.cellD; have fO := HS.out.freeO) | ((with_reducible refine gate_store (t := 30) (p := 246) rfl ?_); refine store_event (t := 30) (p := 246) (v := ?vo246) (w1 := ?w1246) ?hg246 ?ho246 ?hn246 ?hr246 ?_; (case ho246 => rfl); (case hg246 => rfl); (case hn246 => rfl); (case hr246 => (go_simp;rfl)); intro W_ hw; have n0_ := Aside0.mk (HS.out.put hw); clear hw HS cI cO fO; have HS := n0_; clear n0_; have cI := HS.out.cellI; have cO := HS.out.cellD; have fO := HS.out.freeO) | (go_at_call 40; refine (St.little HH.out HS.out (k := 16) (by rw [HL.out]; decide)).mono ?_; rintro e W_ ⟨rfl, hst⟩; have n0_ := Aside0.mk hst; clear hst HS cI cO fO; have HS := n0_; clear n0_; have cI := HS.out.cellI; have cO := HS.out.cellD; have fO := HS.out.freeO))
  go_still_tail 8, (by kernel_rfl)
  change wpList _ _ _ _ _ W_.drew
  have n0_ := Aside0.mk HS.out.drew
  clear HS cI cO fO
  generalize W_.drew = W_ at n0_ ⊢
  have HS := n0_
  clear n0_
  have cI := HS.out.cellI
  have cO := HS.out.cellD
  have fO := HS.out.freeO
  refine store_event (t := 30) (p := 256) (v := ?vo256) (w1 := ?w1256) ?hg256 ?ho256 ?hn256 ?hr256 ?_
  (case ho256 => rfl)
  (case hg256 => rfl)
  (case hn256 => rfl)
  (case hr256 => (go_simp;rfl))
  intro W_ hw
  have n0_ := Aside0.mk (HS.out.put hw)
  clear hw HS cI cO fO
  have HS := n0_
  clear n0_
  have cI := HS.out.cellI
  have cO := HS.out.cellD
  have fO := HS.out.freeO
  go_wp2_with (first | ((with_reducible refine gate_store (t := 30) (p := 261) rfl ?_); refine store_event (t := 30) (p := 261) (v := ?vo261) (w1 := ?w1261) ?hg261 ?ho261 ?hn261 ?hr261 ?_; (case ho261 => rfl); (case hg261 => rfl); (case hn261 => rfl); (case hr261 => (go_simp;rfl)); intro W_ hw; have n0_ := Aside0.mk (HS.out.put hw); clear hw HS cI cO fO; have HS := n0_; clear n0_; have cI := HS.out.cellI; have cO := HS.out.cellD; have fO := HS.out.freeO) | ((with_reducible refine gate_store (t := 30) (p := 265) rfl ?_); refine store_event (t := 30) (p := 265) (v := ?vo265) (w1 := ?w1265) ?hg265 ?ho265 ?hn265 ?hr265 ?_; (case ho265 => rfl); (case hg265 => rfl); (case hn265 => rfl); (case hr265 => (go_simp;rfl)); intro W_ hw; have n0_ := Aside0.mk (HS.out.put hw); clear hw HS cI cO fO; have HS := n0_; clear n0_; have cI := HS.out.cellI; have cO := HS.out.cellD; have fO := HS.out.freeO) | (go_at_call 40; refine (St.little HH.out HS.out (k := 17) (by rw [HL.out]; decide)).mono ?_; rintro e W_ ⟨rfl, hst⟩; have n0_ := Aside0.mk hst; clear hst HS cI cO fO; have HS := n0_; clear n0_; have cI := HS.out.cellI; have cO := HS.out.cellD; have fO := HS.out.freeO))
  go_still_tail 8, (by kernel_rfl)
  change wpList _ _ _ _ _ W_.drew
  have n0_ := Aside0.mk HS.out.drew
  clear HS cI cO fO
  generalize W_.drew = W_ at n0_ ⊢
  have HS := n0_
  clear n0_
  have cI := HS.out.cellI
  have cO := HS.out.cellD
  have fO := HS.out.freeO
  refine store_event (t := 30) (p := 275) (v := ?vo275) (w1 := ?w1275) ?hg275 ?ho275 ?hn275 ?hr275 ?_
  (case ho275 => rfl)
  (case hg275 => rfl)
  (case hn275 => rfl)
  (case hr275 => (go_simp;rfl))
  intro W_ hw
  have n0_ := Aside0.mk (HS.out.put hw)
  clear hw HS cI cO fO
  have HS := n0_
  clear n0_
  have cI := HS.out.cellI
  have cO := HS.out.cellD
  have fO := HS.out.freeO
  go_wp2_with (first | ((with_reducible refine gate_store (t := 30) (p := 279) rfl ?_); refine store_event (t := 30) (p := 279) (v := ?vo279) (w1 := ?w1279) ?hg279 ?ho279 ?hn279 ?hr279 ?_; (case ho279 => rfl); (case hg279 => rfl); (case hn279 => rfl); (case hr279 => (go_simp;rfl)); intro W_ hw; have n0_ := Aside0.mk (HS.out.put hw); clear hw HS cI cO fO; have HS := n0_; clear n0_; have cI := HS.out.cellI; have cO := HS.out.cellD; have fO := HS.out.freeO) | (go_at_call 40; refine (St.little HH.out HS.out (k := 18) (by rw [HL.out]; decide)).mono ?_; rintro e W_ ⟨rfl, hst⟩; have n0_ := Aside0.mk hst; clear hst HS cI cO fO; have HS := n0_; clear n0_; have cI := HS.out.cellI; have cO := HS.out.cellD; have fO := HS.out.freeO))
  go_still_tail 8, (by kernel_rfl)
  change wpList _ _ _ _ _ W_.drew
  have n0_ := Aside0.mk HS.out.drew
  clear HS cI cO fO
  generalize W_.drew = W_ at n0_ ⊢
  have HS := n0_
  clear n0_
  have cI := HS.out.cellI
  have cO := HS.out.cellD
  have fO := HS.out.freeO
  refine store_event (t := 30) (p := 289) (v := ?vo289) (w1 := ?w1289) ?hg289 ?ho289 ?hn289 ?hr289 ?_
  (case ho289 => rfl)
  (case hg289 => rfl)
  (case hn289 => rfl)
  (case hr289 => (go_simp;rfl))
  intro W_ hw
  have n0_ := Aside0.mk (HS.out.put hw)
  clear hw HS cI cO fO
  have HS := n0_
  clear n0_
  have cI := HS.out.cellI
  have cO := HS.out.cellD
  have fO := HS.out.freeO
  go_wp2_with (first | ((with_reducible refine gate_store (t := 30) (p := 294) rfl ?_); refine store_event (t := 30) (p := 294) (v := ?vo294) (w1 := ?w1294) ?hg294 ?ho294 ?hn294 ?hr294 ?_; (case ho294 => rfl); (case hg294 => rfl); (case hn294 => rfl); (case hr294 => (go_simp;rfl)); intro W_ hw; have n0_ := Aside0.mk (HS.out.put hw); clear hw HS cI cO fO; have HS := n0_; clear n0_; have cI := HS.out.cellI; have cO := HS.out.cellD; have fO := HS.out.freeO) | ((with_reducible refine gate_store (t := 30) (p := 298) rfl ?_); refine store_event (t := 30) (p := 298) (v := ?vo298) (w1 := ?w1298) ?hg298 ?ho298 ?hn298 ?hr298 ?_; (case ho298 => rfl); (case hg298 => rfl); (case hn298 => rfl); (case hr298 => (go_simp;rfl)); intro W_ hw; have n0_ := Aside0.mk (HS.out.put hw); clear hw HS cI cO fO; have HS := n0_; clear n0_; have cI := HS.out.cellI; have cO := HS.out.cellD; have fO := HS.out.freeO) | (go_at_call 40; refine (St.little HH.out HS.out (k := 19) (by rw [HL.out]; decide)).mono ?_; rintro e W_ ⟨rfl, hst⟩; have n0_ := Aside0.mk hst; clear hst HS cI cO fO; have HS := n0_; clear n0_; have cI := HS.out.cellI; have cO := HS.out.cellD; have fO := HS.out.freeO))
  go_still_tail 8, (by kernel_rfl)
  change wpList _ _ _ _ _ W_.drew
  have n0_ := Aside0.mk HS.out.drew
  clear HS cI cO fO
  generalize W_.drew = W_ at n0_ ⊢
  have HS := n0_
  clear n0_
  have cI := HS.out.cellI
  have cO := HS.out.cellD
  have fO := HS.out.freeO
  refine store_event (t := 30) (p := 308) (v := ?vo308) (w1 := ?w1308) ?hg308 ?ho308 ?hn308 ?hr308 ?_
  (case ho308 => rfl)
  (case hg308 => rfl)
  (case hn308 => rfl)
  (case hr308 => (go_simp;rfl))
  intro W_ hw
  have n0_ := Aside0.mk (HS.out.put hw)
  clear hw HS cI cO fO
  have HS := n0_
  clear n0_
  have cI := HS.out.cellI
  have cO := HS.out.cellD
  have fO := HS.out.freeO
  go_wp2_with (first | ((with_reducible refine gate_store (t := 30) (p := 312) rfl ?_); refine store_event (t := 30) (p := 312) (v := ?vo312) (w1 := ?w1312) ?hg312 ?ho312 ?hn312 ?hr312 ?_; (case ho312 => rfl); (case hg312 => rfl); (case hn312 => rfl); (case hr312 => (go_simp;rfl)); intro W_ hw; have n0_ := Aside0.mk (HS.out.put hw); clear hw HS cI cO fO; have HS := n0_; clear n0_; have cI := HS.out.cellI; have cO := HS.out.cellD; have fO := HS.out.freeO))
  refine bodyPost_end (results_none rfl _ _ _) rfl ?_
  have hrow := HS.out.row
  simp only [List.replicate, List.set] at hrow
  have hrow2 : W_.heap[O]? = some (.cells ((lit20 l).map (Value.int .u32)).toArray 30 (0, 0)) := by unfold lit20; exact hrow
  rw [lit20_is] at hrow2
  exact ⟨rfl, hrow2, HS.out.kept, HS.out.below⟩
end Go.Proofs.YtidcmpjcghbofaaDoor.Q
