/- The walk of the unpacking of 12 bits: what is unpacked are the fields of the bytes' number. -/
import Derived.Test.YtidcmpjcghbofaaDoorUb
import Derived.Test.YtidcmpjcghbofaaDoorUf
import Derived.Recover
import Derived.Handy
import Derived.StillTailTactics
import Derived.Laws.CopyOwn
import Derived.Deep.RegionLaw
import Derived.Test.YtidcmpjcghbofaaDoorNum
namespace Go.Proofs.YtidcmpjcghbofaaDoor.Q
open Go.RowKit Go.Proofs.YtidcmpjcghbofaaDoorW.PrintWords Go.Proofs.YtidcmpjcghbofaaDoorW.PrintLast Go.Proofs.YtidcmpjcghbofaaDoorW.PrintMore
set_option linter.unusedVariables false
set_option linter.unusedSimpArgs false
def lit12 (l : List Int) : List Int := [((word l 0 : Nat) : Int) % 4096, ((word l 0 : Nat) : Int) / 4096 % 4096, bits .or .u32 (((word l 0 : Nat) : Int) / 16777216) (IntKind.u32.wrap (((word l 1 : Nat) : Int).tmod 16 * 256)), ((word l 1 : Nat) : Int) / 16 % 4096, ((word l 1 : Nat) : Int) / 65536 % 4096, bits .or .u32 (((word l 1 : Nat) : Int) / 268435456) (IntKind.u32.wrap (((word l 2 : Nat) : Int).tmod 256 * 16)), ((word l 2 : Nat) : Int) / 256 % 4096, ((word l 2 : Nat) : Int) / 1048576, ((word l 3 : Nat) : Int) % 4096, ((word l 3 : Nat) : Int) / 4096 % 4096, bits .or .u32 (((word l 3 : Nat) : Int) / 16777216) (IntKind.u32.wrap (((word l 4 : Nat) : Int).tmod 16 * 256)), ((word l 4 : Nat) : Int) / 16 % 4096, ((word l 4 : Nat) : Int) / 65536 % 4096, bits .or .u32 (((word l 4 : Nat) : Int) / 268435456) (IntKind.u32.wrap (((word l 5 : Nat) : Int).tmod 256 * 16)), ((word l 5 : Nat) : Int) / 256 % 4096, ((word l 5 : Nat) : Int) / 1048576, ((word l 6 : Nat) : Int) % 4096, ((word l 6 : Nat) : Int) / 4096 % 4096, bits .or .u32 (((word l 6 : Nat) : Int) / 16777216) (IntKind.u32.wrap (((word l 7 : Nat) : Int).tmod 16 * 256)), ((word l 7 : Nat) : Int) / 16 % 4096, ((word l 7 : Nat) : Int) / 65536 % 4096, bits .or .u32 (((word l 7 : Nat) : Int) / 268435456) (IntKind.u32.wrap (((word l 8 : Nat) : Int).tmod 256 * 16)), ((word l 8 : Nat) : Int) / 256 % 4096, ((word l 8 : Nat) : Int) / 1048576, ((word l 9 : Nat) : Int) % 4096, ((word l 9 : Nat) : Int) / 4096 % 4096, bits .or .u32 (((word l 9 : Nat) : Int) / 16777216) (IntKind.u32.wrap (((word l 10 : Nat) : Int).tmod 16 * 256)), ((word l 10 : Nat) : Int) / 16 % 4096, ((word l 10 : Nat) : Int) / 65536 % 4096, bits .or .u32 (((word l 10 : Nat) : Int) / 268435456) (IntKind.u32.wrap (((word l 11 : Nat) : Int).tmod 256 * 16)), ((word l 11 : Nat) : Int) / 256 % 4096, ((word l 11 : Nat) : Int) / 1048576]
theorem lit12_is (l : List Int) : lit12 l = fields l 12 :=
  cons_eq (fld_first l 12 0 0 (by decide) (by decide) 4096 (by decide)) <|
  cons_eq (fld_in l 12 1 0 12 (by decide) (by decide) 4096 4096 (by decide) (by decide)) <|
  cons_eq (fld_over l 12 2 0 24 4 (by decide) (by decide) (by decide) (by decide) (by decide) 16777216 16 256 (by decide) (by decide) (by decide)) <|
  cons_eq (fld_in l 12 3 1 4 (by decide) (by decide) 16 4096 (by decide) (by decide)) <|
  cons_eq (fld_in l 12 4 1 16 (by decide) (by decide) 65536 4096 (by decide) (by decide)) <|
  cons_eq (fld_over l 12 5 1 28 8 (by decide) (by decide) (by decide) (by decide) (by decide) 268435456 256 16 (by decide) (by decide) (by decide)) <|
  cons_eq (fld_in l 12 6 2 8 (by decide) (by decide) 256 4096 (by decide) (by decide)) <|
  cons_eq (fld_top l 12 7 2 20 (by decide) (by decide) 1048576 (by decide)) <|
  cons_eq (fld_first l 12 8 3 (by decide) (by decide) 4096 (by decide)) <|
  cons_eq (fld_in l 12 9 3 12 (by decide) (by decide) 4096 4096 (by decide) (by decide)) <|
  cons_eq (fld_over l 12 10 3 24 4 (by decide) (by decide) (by decide) (by decide) (by decide) 16777216 16 256 (by decide) (by decide) (by decide)) <|
  cons_eq (fld_in l 12 11 4 4 (by decide) (by decide) 16 4096 (by decide) (by decide)) <|
  cons_eq (fld_in l 12 12 4 16 (by decide) (by decide) 65536 4096 (by decide) (by decide)) <|
  cons_eq (fld_over l 12 13 4 28 8 (by decide) (by decide) (by decide) (by decide) (by decide) 268435456 256 16 (by decide) (by decide) (by decide)) <|
  cons_eq (fld_in l 12 14 5 8 (by decide) (by decide) 256 4096 (by decide) (by decide)) <|
  cons_eq (fld_top l 12 15 5 20 (by decide) (by decide) 1048576 (by decide)) <|
  cons_eq (fld_first l 12 16 6 (by decide) (by decide) 4096 (by decide)) <|
  cons_eq (fld_in l 12 17 6 12 (by decide) (by decide) 4096 4096 (by decide) (by decide)) <|
  cons_eq (fld_over l 12 18 6 24 4 (by decide) (by decide) (by decide) (by decide) (by decide) 16777216 16 256 (by decide) (by decide) (by decide)) <|
  cons_eq (fld_in l 12 19 7 4 (by decide) (by decide) 16 4096 (by decide) (by decide)) <|
  cons_eq (fld_in l 12 20 7 16 (by decide) (by decide) 65536 4096 (by decide) (by decide)) <|
  cons_eq (fld_over l 12 21 7 28 8 (by decide) (by decide) (by decide) (by decide) (by decide) 268435456 256 16 (by decide) (by decide) (by decide)) <|
  cons_eq (fld_in l 12 22 8 8 (by decide) (by decide) 256 4096 (by decide) (by decide)) <|
  cons_eq (fld_top l 12 23 8 20 (by decide) (by decide) 1048576 (by decide)) <|
  cons_eq (fld_first l 12 24 9 (by decide) (by decide) 4096 (by decide)) <|
  cons_eq (fld_in l 12 25 9 12 (by decide) (by decide) 4096 4096 (by decide) (by decide)) <|
  cons_eq (fld_over l 12 26 9 24 4 (by decide) (by decide) (by decide) (by decide) (by decide) 16777216 16 256 (by decide) (by decide) (by decide)) <|
  cons_eq (fld_in l 12 27 10 4 (by decide) (by decide) 16 4096 (by decide) (by decide)) <|
  cons_eq (fld_in l 12 28 10 16 (by decide) (by decide) 65536 4096 (by decide) (by decide)) <|
  cons_eq (fld_over l 12 29 10 28 8 (by decide) (by decide) (by decide) (by decide) (by decide) 268435456 256 16 (by decide) (by decide) (by decide)) <|
  cons_eq (fld_in l 12 30 11 8 (by decide) (by decide) 256 4096 (by decide) (by decide)) <|
  cons_eq (fld_top l 12 31 11 20 (by decide) (by decide) 1048576 (by decide)) <| rfl
set_option maxHeartbeats 8000000 in
set_option maxRecDepth 100000 in
theorem unpack12_32.calls (R O : Nat) (ad : Addr) (c : Nat) (q : Int) (l : List Int) (w : World) (hl : l.length = 48) (H : Src w R O ad c l)
    (hR : w.heap[R]? = some (.cells #[.slice (some ad) l.length c, .int .i64 0, .int .i64 q] 43 (0, 0)))
    (hO : w.heap[O]? = some (.cells ((List.replicate 32 (0 : Int)).map (Value.int .u32)).toArray 30 (0, 0))) (hne : R ≠ O) :
    Calls Tryd.prog 38 #[.iface 34 (.pointer (some ⟨R, 0, none⟩)), .slice (some ⟨O, 0, none⟩) 32 32] w fun e w' => e = .returned (.tuple #[]) ∧
      w'.heap[O]? = some (.cells ((fields l 12).map (Value.int .u32)).toArray 30 (0, 0)) ∧ Kept w w' (fun k => k = R ∨ k = O) ∧ Below (min R O) w w' := by
  have HS := Aside0.mk (St.start hR hO hne (by simp))
  have HH := Aside0.mk H
  have HL := Aside0.mk hl
  have cI := HS.out.cellI
  have cO := HS.out.cellD
  have fO := HS.out.freeO
  clear H hR hO hl
  go_enter Tryd.func38, Tryd.ntmps38
  go_wp2_with (first | (go_at_call 40; refine (St.little HH.out HS.out (k := 0) (by rw [HL.out]; decide)).mono ?_; rintro e W_ ⟨rfl, hst⟩; have n0_ := Aside0.mk hst; clear hst HS cI cO fO; have HS := n0_; clear n0_; have cI := HS.out.cellI; have cO := HS.out.cellD; have fO := HS.out.freeO) | ((with_reducible refine gate_store (t := 30) (p := 11) rfl ?_); refine store_event (t := 30) (p := 11) (v := ?vo11) (w1 := ?w111) ?hg11 ?ho11 ?hn11 ?hr11 ?_; (case ho11 => rfl); (case hg11 => rfl); (case hn11 => rfl); (case hr11 => (go_simp;rfl)); intro W_ hw; have n0_ := Aside0.mk (HS.out.put hw); clear hw HS cI cO fO; have HS := n0_; clear n0_; have cI := HS.out.cellI; have cO := HS.out.cellD; have fO := HS.out.freeO) | ((with_reducible refine gate_store (t := 30) (p := 16) rfl ?_); refine store_event (t := 30) (p := 16) (v := ?vo16) (w1 := ?w116) ?hg16 ?ho16 ?hn16 ?hr16 ?_; (case ho16 => rfl); (case hg16 => rfl); (case hn16 => rfl); (case hr16 => (go_simp;rfl)); intro W_ hw; have n0_ := Aside0.mk (HS.out.put hw); clear hw HS cI cO fO; have HS := n0_; clear n0_; have cI := HS.out.cellI; have cO := HS.out.cellD; have fO := HS.out.freeO) | ((with_reducible refine gate_store (t := 30) (p := 20) rfl ?_); refine store_event (t := 30) (p := 20) (v := ?vo20) (w1 := ?w120) ?hg20 ?ho20 ?hn20 ?hr20 ?_; (case ho20 => rfl); (case hg20 => rfl); (case hn20 => rfl); (case hr20 => (go_simp;rfl)); intro W_ hw; have n0_ := Aside0.mk (HS.out.put hw); clear hw HS cI cO fO; have HS := n0_; clear n0_; have cI := HS.out.cellI; have cO := HS.out.cellD; have fO := HS.out.freeO) | (go_at_call 40; refine (St.little HH.out HS.out (k := 1) (by rw [HL.out]; decide)).mono ?_; rintro e W_ ⟨rfl, hst⟩; have n0_ := Aside0.mk hst; clear hst HS cI cO fO; have HS := n0_; clear n0_; have cI := HS.out.cellI; have cO := HS.out.cellD; have fO := HS.out.freeO))
  go_still_tail 8, (by kernel_rfl)
  change wpList _ _ _ _ _ W_.drew
  have n0_ := Aside0.mk HS.out.drew
  clear HS cI cO fO
  generalize W_.drew = W_ at n0_ ⊢
  have HS := n0_
  clear n0_
  have cI := HS.out.cellI
  have cO := HS.out.cellD
  have fO := HS.out.freeO
  refine store_event (t := 30) (p := 30) (v := ?vo30) (w1 := ?w130) ?hg30 ?ho30 ?hn30 ?hr30 ?_
  (case ho30 => rfl)
  (case hg30 => rfl)
  (case hn30 => rfl)
  (case hr30 => (go_simp;rfl))
  intro W_ hw
  have n0_ := Aside0.mk (HS.out.put hw)
  clear hw HS cI cO fO
  have HS := n0_
  clear n0_
  have cI := HS.out.cellI
  have cO := HS.out.cellD
  have fO := HS.out.freeO
  go_wp2_with (first | ((with_reducible refine gate_store (t := 30) (p := 35) rfl ?_); refine store_event (t := 30) (p := 35) (v := ?vo35) (w1 := ?w135) ?hg35 ?ho35 ?hn35 ?hr35 ?_; (case ho35 => rfl); (case hg35 => rfl); (case hn35 => rfl); (case hr35 => (go_simp;rfl)); intro W_ hw; have n0_ := Aside0.mk (HS.out.put hw); clear hw HS cI cO fO; have HS := n0_; clear n0_; have cI := HS.out.cellI; have cO := HS.out.cellD; have fO := HS.out.freeO) | ((with_reducible refine gate_store (t := 30) (p := 40) rfl ?_); refine store_event (t := 30) (p := 40) (v := ?vo40) (w1 := ?w140) ?hg40 ?ho40 ?hn40 ?hr40 ?_; (case ho40 => rfl); (case hg40 => rfl); (case hn40 => rfl); (case hr40 => (go_simp;rfl)); intro W_ hw; have n0_ := Aside0.mk (HS.out.put hw); clear hw HS cI cO fO; have HS := n0_; clear n0_; have cI := HS.out.cellI; have cO := HS.out.cellD; have fO := HS.out.freeO) | ((with_reducible refine gate_store (t := 30) (p := 44) rfl ?_); refine store_event (t := 30) (p := 44) (v := ?vo44) (w1 := ?w144) ?hg44 ?ho44 ?hn44 ?hr44 ?_; (case ho44 => rfl); (case hg44 => rfl); (case hn44 => rfl); (case hr44 => (go_simp;rfl)); intro W_ hw; have n0_ := Aside0.mk (HS.out.put hw); clear hw HS cI cO fO; have HS := n0_; clear n0_; have cI := HS.out.cellI; have cO := HS.out.cellD; have fO := HS.out.freeO) | (go_at_call 40; refine (St.little HH.out HS.out (k := 2) (by rw [HL.out]; decide)).mono ?_; rintro e W_ ⟨rfl, hst⟩; have n0_ := Aside0.mk hst; clear hst HS cI cO fO; have HS := n0_; clear n0_; have cI := HS.out.cellI; have cO := HS.out.cellD; have fO := HS.out.freeO))
  go_still_tail 8, (by kernel_rfl)
  change wpList _ _ _ _ _ W_.drew
  have n0_ := Aside0.mk HS.out.drew
  clear HS cI cO fO
  generalize W_.drew = W_ at n0_ ⊢
  have HS := n0_
  clear n0_
  have cI := HS.out.cellI
  have cO := HS.out.cellD
  have fO := HS.out.freeO
  refine store_event (t := 30) (p := 54) (v := ?vo54) (w1 := ?w154) ?hg54 ?ho54 ?hn54 ?hr54 ?_
  (case ho54 => rfl)
  (case hg54 => rfl)
  (case hn54 => rfl)
  (case hr54 => (go_simp;rfl))
  intro W_ hw
  have n0_ := Aside0.mk (HS.out.put hw)
  clear hw HS cI cO fO
  have HS := n0_
  clear n0_
  have cI := HS.out.cellI
  have cO := HS.out.cellD
  have fO := HS.out.freeO
  go_wp2_with (first | ((with_reducible refine gate_store (t := 30) (p := 59) rfl ?_); refine store_event (t := 30) (p := 59) (v := ?vo59) (w1 := ?w159) ?hg59 ?ho59 ?hn59 ?hr59 ?_; (case ho59 => rfl); (case hg59 => rfl); (case hn59 => rfl); (case hr59 => (go_simp;rfl)); intro W_ hw; have n0_ := Aside0.mk (HS.out.put hw); clear hw HS cI cO fO; have HS := n0_; clear n0_; have cI := HS.out.cellI; have cO := HS.out.cellD; have fO := HS.out.freeO) | ((with_reducible refine gate_store (t := 30) (p := 63) rfl ?_); refine store_event (t := 30) (p := 63) (v := ?vo63) (w1 := ?w163) ?hg63 ?ho63 ?hn63 ?hr63 ?_; (case ho63 => rfl); (case hg63 => rfl); (case hn63 => rfl); (case hr63 => (go_simp;rfl)); intro W_ hw; have n0_ := Aside0.mk (HS.out.put hw); clear hw HS cI cO fO; have HS := n0_; clear n0_; have cI := HS.out.cellI; have cO := HS.out.cellD; have fO := HS.out.freeO) | (go_at_call 40; refine (St.little HH.out HS.out (k := 3) (by rw [HL.out]; decide)).mono ?_; rintro e W_ ⟨rfl, hst⟩; have n0_ := Aside0.mk hst; clear hst HS cI cO fO; have HS := n0_; clear n0_; have cI := HS.out.cellI; have cO := HS.out.cellD; have fO := HS.out.freeO) | ((with_reducible refine gate_store (t := 30) (p := 70) rfl ?_); refine store_event (t := 30) (p := 70) (v := ?vo70) (w1 := ?w170) ?hg70 ?ho70 ?hn70 ?hr70 ?_; (case ho70 => rfl); (case hg70 => rfl); (case hn70 => rfl); (case hr70 => (go_simp;rfl)); intro W_ hw; have n0_ := Aside0.mk (HS.out.put hw); clear hw HS cI cO fO; have HS := n0_; clear n0_; have cI := HS.out.cellI; have cO := HS.out.cellD; have fO := HS.out.freeO) | ((with_reducible refine gate_store (t := 30) (p := 75) rfl ?_); refine store_event (t := 30) (p := 75) (v := ?vo75) (w1 := ?w175) ?hg75 ?ho75 ?hn75 ?hr75 ?_; (case ho75 => rfl); (case hg75 => rfl); (case hn75 => rfl); (case hr75 => (go_simp;rfl)); intro W_ hw; have n0_ := Aside0.mk (HS.out.put hw); clear hw HS cI cO fO; have HS := n0_; clear n0_; have cI := HS.out.cellI; have cO := HS.out.cellD; have fO := HS.out.freeO) | ((with_reducible refine gate_store (t := 30) (p := 79) rfl ?_); refine store_event (t := 30) (p := 79) (v := ?vo79) (w1 := ?w179) ?hg79 ?ho79 ?hn79 ?hr79 ?_; (case ho79 => rfl); (case hg79 => rfl); (case hn79 => rfl); (case hr79 => (go_simp;rfl)); intro W_ hw; have n0_ := Aside0.mk (HS.out.put hw); clear hw HS cI cO fO; have HS := n0_; clear n0_; have cI := HS.out.cellI; have cO := HS.out.cellD; have fO := HS.out.freeO) | (go_at_call 40; refine (St.little HH.out HS.out (k := 4) (by rw [HL.out]; decide)).mono ?_; rintro e W_ ⟨rfl, hst⟩; have n0_ := Aside0.mk hst; clear hst HS cI cO fO; have HS := n0_; clear n0_; have cI := HS.out.cellI; have cO := HS.out.cellD; have fO := HS.out.freeO))
  go_still_tail 8, (by kernel_rfl)
  change wpList _ _ _ _ _ W_.drew
  have n0_ := Aside0.mk HS.out.drew
  clear HS cI cO fO
  generalize W_.drew = W_ at n0_ ⊢
  have HS := n0_
  clear n0_
  have cI := HS.out.cellI
  have cO := HS.out.cellD
  have fO := HS.out.freeO
  refine store_event (t := 30) (p := 89) (v := ?vo89) (w1 := ?w189) ?hg89 ?ho89 ?hn89 ?hr89 ?_
  (case ho89 => rfl)
  (case hg89 => rfl)
  (case hn89 => rfl)
  (case hr89 => (go_simp;rfl))
  intro W_ hw
  have n0_ := Aside0.mk (HS.out.put hw)
  clear hw HS cI cO fO
  have HS := n0_
  clear n0_
  have cI := HS.out.cellI
  have cO := HS.out.cellD
  have fO := HS.out.freeO
  go_wp2_with (first | ((with_reducible refine gate_store (t := 30) (p := 94) rfl ?_); refine store_event (t := 30) (p := 94) (v := ?vo94) (w1 := ?w194) ?hg94 ?ho94 ?hn94 ?hr94 ?_; (case ho94 => rfl); (case hg94 => rfl); (case hn94 => rfl); (case hr94 => (go_simp;rfl)); intro W_ hw; have n0_ := Aside0.mk (HS.out.put hw); clear hw HS cI cO fO; have HS := n0_; clear n0_; have cI := HS.out.cellI; have cO := HS.out.cellD; have fO := HS.out.freeO) | ((with_reducible refine gate_store (t := 30) (p := 99) rfl ?_); refine store_event (t := 30) (p := 99) (v := ?vo99) (w1 := ?w199) ?hg99 ?ho99 ?hn99 ?hr99 ?_; (case ho99 => rfl); (case hg99 => rfl); (case hn99 => rfl); (case hr99 => (go_simp;rfl)); intro W_ hw; have n0_ := Aside0.mk (HS.out.put hw); clear hw HS cI cO fO; have HS := n0_; clear n0_; have cI := HS.out.cellI; have cO := HS.out.cellD; have fO := HS.out.freeO) | ((with_reducible refine gate_store (t := 30) (p := 103) rfl ?_); refine store_event (t := 30) (p := 103) (v := ?vo103) (w1 := ?w1103) ?hg103 ?ho103 ?hn103 ?hr103 ?_; (case ho103 => rfl); (case hg103 => rfl); (case hn103 => rfl); (case hr103 => (go_simp;rfl)); intro W_ hw; have n0_ := Aside0.mk (HS.out.put hw); clear hw HS cI cO fO; have HS := n0_; clear n0_; have cI := HS.out.cellI; have cO := HS.out.cellD; have fO := HS.out.freeO) | (go_at_call 40; refine (St.little HH.out HS.out (k := 5) (by rw [HL.out]; decide)).mono ?_; rintro e W_ ⟨rfl, hst⟩; have n0_ := Aside0.mk hst; clear hst HS cI cO fO; have HS := n0_; clear n0_; have cI := HS.out.cellI; have cO := HS.out.cellD; have fO := HS.out.freeO))
  go_still_tail 8, (by kernel_rfl)
  change wpList _ _ _ _ _ W_.drew
  have n0_ := Aside0.mk HS.out.drew
  clear HS cI cO fO
  generalize W_.drew = W_ at n0_ ⊢
  have HS := n0_
  clear n0_
  have cI := HS.out.cellI
  have cO := HS.out.cellD
  have fO := HS.out.freeO
  refine store_event (t := 30) (p := 113) (v := ?vo113) (w1 := ?w1113) ?hg113 ?ho113 ?hn113 ?hr113 ?_
  (case ho113 => rfl)
  (case hg113 => rfl)
  (case hn113 => rfl)
  (case hr113 => (go_simp;rfl))
  intro W_ hw
  have n0_ := Aside0.mk (HS.out.put hw)
  clear hw HS cI cO fO
  have HS := n0_
  clear n0_
  have cI := HS.out.cellI
  have cO := HS.out.cellD
  have fO := HS.out.freeO
  go_wp2_with (first | ((with_reducible refine gate_store (t := 30) (p := 118) rfl ?_); refine store_event (t := 30) (p := 118) (v := ?vo118) (w1 := ?w1118) ?hg118 ?ho118 ?hn118 ?hr118 ?_; (case ho118 => rfl); (case hg118 => rfl); (case hn118 => rfl); (case hr118 => (go_simp;rfl)); intro W_ hw; have n0_ := Aside0.mk (HS.out.put hw); clear hw HS cI cO fO; have HS := n0_; clear n0_; have cI := HS.out.cellI; have cO := HS.out.cellD; have fO := HS.out.freeO) | ((with_reducible refine gate_store (t := 30) (p := 122) rfl ?_); refine store_event (t := 30) (p := 122) (v := ?vo122) (w1 := ?w1122) ?hg122 ?ho122 ?hn122 ?hr122 ?_; (case ho122 => rfl); (case hg122 => rfl); (case hn122 => rfl); (case hr122 => (go_simp;rfl)); intro W_ hw; have n0_ := Aside0.mk (HS.out.put hw); clear hw HS cI cO fO; have HS := n0_; clear n0_; have cI := HS.out.cellI; have cO := HS.out.cellD; have fO := HS.out.freeO) | (go_at_call 40; refine (St.little HH.out HS.out (k := 6) (by rw [HL.out]; decide)).mono ?_; rintro e W_ ⟨rfl, hst⟩; have n0_ := Aside0.mk hst; clear hst HS cI cO fO; have HS := n0_; clear n0_; have cI := HS.out.cellI; have cO := HS.out.cellD; have fO := HS.out.freeO) | ((with_reducible refine gate_store (t := 30) (p := 129) rfl ?_); refine store_event (t := 30) (p := 129) (v := ?vo129) (w1 := ?w1129) ?hg129 ?ho129 ?hn129 ?hr129 ?_; (case ho129 => rfl); (case hg129 => rfl); (case hn129 => rfl); (case hr129 => (go_simp;rfl)); intro W_ hw; have n0_ := Aside0.mk (HS.out.put hw); clear hw HS cI cO fO; have HS := n0_; clear n0_; have cI := HS.out.cellI; have cO := HS.out.cellD; have fO := HS.out.freeO) | ((with_reducible refine gate_store (t := 30) (p := 134) rfl ?_); refine store_event (t := 30) (p := 134) (v := ?vo134) (w1 := ?w1134) ?hg134 ?ho134 ?hn134 ?hr134 ?_; (case ho134 => rfl); (case hg134 => rfl); (case hn134 => rfl); (case hr134 => (go_simp;rfl)); intro W_ hw; have n0_ := Aside0.mk (HS.out.put hw); clear hw HS cI cO fO; have HS := n0_; clear n0_; have cI := HS.out.cellI; have cO := HS.out.cellD; have fO := HS.out.freeO) | ((with_reducible refine gate_store (t := 30) (p := 138) rfl ?_); refine store_event (t := 30) (p := 138) (v := ?vo138) (w1 := ?w1138) ?hg138 ?ho138 ?hn138 ?hr138 ?_; (case ho138 => rfl); (case hg138 => rfl); (case hn138 => rfl); (case hr138 => (go_simp;rfl)); intro W_ hw; have n0_ := Aside0.mk (HS.out.put hw); clear hw HS cI cO fO; have HS := n0_; clear n0_; have cI := HS.out.cellI; have cO := HS.out.cellD; have fO := HS.out.freeO) | (go_at_call 40; refine (St.little HH.out HS.out (k := 7) (by rw [HL.out]; decide)).mono ?_; rintro e W_ ⟨rfl, hst⟩; have n0_ := Aside0.mk hst; clear hst HS cI cO fO; have HS := n0_; clear n0_; have cI := HS.out.cellI; have cO := HS.out.cellD; have fO := HS.out.freeO))
  go_still_tail 8, (by kernel_rfl)
  change wpList _ _ _ _ _ W_.drew
  have n0_ := Aside0.mk HS.out.drew
  clear HS cI cO fO
  generalize W_.drew = W_ at n0_ ⊢
  have HS := n0_
  clear n0_
  have cI := HS.out.cellI
  have cO := HS.out.cellD
  have fO := HS.out.freeO
  refine store_event (t := 30) (p := 148) (v := ?vo148) (w1 := ?w1148) ?hg148 ?ho148 ?hn148 ?hr148 ?_
  (case ho148 => rfl)
  (case hg148 => rfl)
  (case hn148 => rfl)
  (case hr148 => (go_simp;rfl))
  intro W_ hw
  have n0_ := Aside0.mk (HS.out.put hw)
  clear hw HS cI cO fO
  have HS := n0_
  clear n0_
  have cI := HS.out.cellI
  have cO := HS.out.cellD
  have fO := HS.out.freeO
  go_wp2_with (first | ((with_reducible refine gate_store (t := 30) (p := 153) rfl ?_); refine store_event (t := 30) (p := 153) (v := ?vo153) (w1 := ?w1153) ?hg153 ?ho153 ?hn153 ?hr153 ?_; (case ho153 => rfl); (case hg153 => rfl); (case hn153 => rfl); (case hr153 => (go_simp;rfl)); intro W_ hw; have n0_ := Aside0.mk (HS.out.put hw); clear hw HS cI cO fO; have HS := n0_; clear n0_; have cI := HS.out.cellI; have cO := HS.out.cellD; have fO := HS.out.freeO) | ((with_reducible refine gate_store (t := 30) (p := 158) rfl ?_); refine store_event (t := 30) (p := 158) (v := ?vo158) (w1 := ?w1158) ?hg158 ?ho158 ?hn158 ?hr158 ?_; (case ho158 => rfl); (case hg158 => rfl); (case hn158 => rfl); (case hr158 => (go_simp;rfl)); intro W_ hw; have n0_ := Aside0.mk (HS.out.put hw); clear hw HS cI cO fO; have HS := n0_; clear n0_; have cI := HS.out.cellI; have cO := HS.out.cellD; have fO := HS.out.freeO) | ((with_reducible refine gate_store (t := 30) (p := 162) rfl ?_); refine store_event (t := 30) (p := 162) (v := ?vo162) (w1 := ?w1162) ?hg162 ?ho162 ?hn162 ?hr162 ?_; (case ho162 => rfl); (case hg162 => rfl); (case hn162 => rfl); (case hr162 => (go_simp;rfl)); intro W_ hw; have n0_ := Aside0.mk (HS.out.put hw); clear hw HS cI cO fO; have HS := n0_; clear n0_; have cI := HS.out.cellI; have cO := HS.out.cellD; have fO := HS.out.freeO) | (go_at_call 40; refine (St.little HH.out HS.out (k := 8) (by rw [HL.out]; decide)).mono ?_; rintro e W_ ⟨rfl, hst⟩; have n0_ := Aside0.mk hst; clear hst HS cI cO fO; have HS := n0_; clear n0_; have cI := HS.out.cellI; have cO := HS.out.cellD; have fO := HS.out.freeO))
  go_still_tail 8, (by kernel_rfl)
  change wpList _ _ _ _ _ W_.drew
  have n0_ := Aside0.mk HS.out.drew
  clear HS cI cO fO
  generalize W_.drew = W_ at n0_ ⊢
  have HS := n0_
  clear n0_
  have cI := HS.out.cellI
  have cO := HS.out.cellD
  have fO := HS.out.freeO
  refine store_event (t := 30) (p := 172) (v := ?vo172) (w1 := ?w1172) ?hg172 ?ho172 ?hn172 ?hr172 ?_
  (case ho172 => rfl)
  (case hg172 => rfl)
  (case hn172 => rfl)
  (case hr172 => (go_simp;rfl))
  intro W_ hw
  have n0_ := Aside0.mk (HS.out.put hw)
  clear hw HS cI cO fO
  have HS := n0_
  clear n0_
  have cI := HS.out.cellI
  have cO := HS.out.cellD
  have fO := HS.out.freeO
  go_wp2_with (first | ((with_reducible refine gate_store (t := 30) (p := 177) rfl ?_); refine store_event (t := 30) (p := 177) (v := ?vo177) (w1 := ?w1177) ?hg177 ?ho177 ?hn177 ?hr177 ?_; (case ho177 => rfl); (case hg177 => rfl); (case hn177 => rfl); (case hr177 => (go_simp;rfl)); intro W_ hw; have n0_ := Aside0.mk (HS.out.put hw); clear hw HS cI cO fO; have HS := n0_; clear n0_; have cI := HS.out.cellI; have cO := HS.out.cellD; have fO := HS.out.freeO) | ((with_reducible refine gate_store (t := 30) (p := 181) rfl ?_); refine store_event (t := 30) (p := 181) (v := ?vo181) (w1 := ?w1181) ?hg181 ?ho181 ?hn181 ?hr181 ?_; (case ho181 => rfl); (case hg181 => rfl); (case hn181 => rfl); (case hr181 => (go_simp;rfl)); intro W_ hw; have n0_ := Aside0.mk (HS.out.put hw); clear hw HS cI cO fO; have HS := n0_; clear n0_; have cI := HS.out.cellI; have cO := HS.out.cellD; have fO := HS.out.freeO) | (go_at_call 40; refine (St.little HH.out HS.out (k := 9) (by rw [HL.out]; decide)).mono ?_; rintro e W_ ⟨rfl, hst⟩; have n0_ := Aside0.mk hst; clear hst HS cI cO fO; have HS := n0_; clear n0_; have cI := HS.out.cellI; have cO := HS.out.cellD; have fO := HS.out.freeO) | ((with_reducible refine gate_store (t := 30) (p := 188) rfl ?_); refine store_event (t := 30) (p := 188) (v := ?vo188) (w1 := ?w1188) ?hg188 ?ho188 ?hn188 ?hr188 ?_; (case ho188 => rfl); (case hg188 => rfl); (case hn188 => rfl); (case hr188 => (go_simp;rfl)); intro W_ hw; have n0_ := Aside0.mk (HS.out.put hw); clear hw HS cI cO fO; have HS := n0_; clear n0_; have cI := HS.out.cellI; have cO := HS.out.cellD; have fO := HS.out.freeO) | ((with_reducible refine gate_store (t := 30) (p := 193) rfl ?_); refine store_event (t := 30) (p := 193) (v := ?vo193) (w1 := ?w1193) ?hg193 ?ho193 ?hn193 ?hr193 ?_; (case ho193 => rfl); (case hg193 => rfl); (case hn193 => rfl); (case hr193 => (go_simp;rfl)); intro W_ hw; have n0_ := Aside0.mk (HS.out.put hw); clear hw HS cI cO fO; have HS := n0_; clear n0_; have cI := HS.out.cellI; have cO := HS.out.cellD; have fO := HS.out.freeO) | ((with_reducible refine gate_store (t := 30) (p := 197) rfl ?_); refine store_event (t := 30) (p := 197) (v := ?vo197) (w1 := ?w1197) ?hg197 ?ho197 ?hn197 ?hr197 ?_; (case ho197 => rfl); (case hg197 => rfl); (case hn197 => rfl); (case hr197 => (go_simp;rfl)); intro W_ hw; have n0_ := Aside0.mk (HS.out.put hw); clear hw HS cI cO fO; have HS := n0_; clear n0_; have cI := HS.out.cellI; have cO := HS.out.cellD; have fO := HS.out.freeO) | (go_at_call 40; refine (St.little HH.out HS.out (k := 10) (by rw [HL.out]; decide)).mono ?_; rintro e W_ ⟨rfl, hst⟩; have n0_ := Aside0.mk hst; clear hst HS cI cO fO; have HS := n0_; clear n0_; have cI := HS.out.cellI; have cO := HS.out.cellD; have fO := HS.out.freeO))
  go_still_tail 8, (by kernel_rfl)
  change wpList _ _ _ _ _ W_.drew
  have n0_ := Aside0.mk HS.out.drew
  clear HS cI cO fO
  generalize W_.drew = W_ at n0_ ⊢
  have HS := n0_
  clear n0_
  have cI := HS.out.cellI
  have cO := HS.out.cellD
  have fO := HS.out.freeO
  refine store_event (t := 30) (p := 207) (v := ?vo207) (w1 := ?w1207) ?hg207 ?ho207 ?hn207 ?hr207 ?_
  (case ho207 => rfl)
  (case hg207 => rfl)
  (case hn207 => rfl)
  (case hr207 => (go_simp;rfl))
  intro W_ hw
  have n0_ := Aside0.mk (HS.out.put hw)
  clear hw HS cI cO fO
  have HS := n0_
  clear n0_
  have cI := HS.out.cellI
  have cO := HS.out.cellD
  have fO := HS.out.freeO
  go_wp2_with (first | ((with_reducible refine gate_store (t := 30) (p := 212) rfl ?_); refine store_event (t := 30) (p := 212) (v := ?vo212) (w1 := ?w1212) ?hg212 ?ho212 ?hn212 ?hr212 ?_; (case ho212 => rfl); (case hg212 => rfl); (case hn212 => rfl); (case hr212 => (go_simp;rfl)); intro W_ hw; have n0_ := Aside0.mk (HS.out.put hw); clear hw HS cI cO fO; have HS := n0_; clear n0_; have cI := HS.out.cellI; have cO := HS.out.cellD; have fO := HS.out.freeO) | ((with_reducible refine gate_store (t := 30) (p := 217) rfl ?_); refine store_event (t := 30) (p := 217) (v := ?vo217) (w1 := ?w1217) ?hg217 ?ho217 ?hn217 ?hr217 ?_; (case ho217 => rfl); (case hg217 => rfl); (case hn217 => rfl); (case hr217 => (go_simp;rfl)); intro W_ hw; have n0_ := Aside0.mk (HS.out.put hw); clear hw HS cI cO fO; have HS := n0_; clear n0_; have cI := HS.out.cellI; have cO := HS.out.cellD; have fO := HS.out.freeO) | ((with_reducible refine gate_store (t := 30) (p := 221) rfl ?_); refine store_event (t := 30) (p := 221) (v := ?vo221) (w1 := ?w1221) ?hg221 ?ho221 ?hn221 ?hr221 ?_; (case ho221 => rfl); (case hg221 => rfl); (case hn221 => rfl); (case hr221 => (go_simp;rfl)); intro W_ hw; have n0_ := Aside0.mk (HS.out.put hw); clear hw HS cI cO fO; have HS := n0_; clear n0_; have cI := HS.out.cellI; have cO := HS.out.cellD; have fO := HS.out.freeO) | (go_at_call 40; refine (St.little HH.out HS.out (k := 11) (by rw [HL.out]; decide)).mono ?_; rintro e W_ ⟨rfl, hst⟩; have n0_ := Aside0.mk hst; clear hst HS cI cO fO; have HS := n0_; clear n0_; have cI := HS.out.cellI; have cO := HS.out.cellD; have fO := HS.out.freeO))
  go_still_tail 8, (by kernel_rfl)
  change wpList _ _ _ _ _ W_.drew
  have n0_ := Aside0.mk HS.out.drew
  clear HS cI cO fO
  generalize W_.drew = W_ at n0_ ⊢
  have HS := n0_
  clear n0_
  have cI := HS.out.cellI
  have cO := HS.out.cellD
  have fO := HS.out.freeO
  refine store_event (t := 30) (p := 231) (v := ?vo231) (w1 := ?w1231) ?hg231 ?ho231 ?hn231 ?hr231 ?_
  (case ho231 => rfl)
  (case hg231 => rfl)
  (case hn231 => rfl)
  (case hr231 => (go_simp;rfl))
  intro W_ hw
  have n0_ := Aside0.mk (HS.out.put hw)
  clear hw HS cI cO fO
  have HS := n0_
  clear n0_
  have cI := HS.out.cellI
  have cO := HS.out.cellD
  have fO := HS.out.freeO
  go_wp2_with (first | ((with_reducible refine gate_store (t := 30) (p := 236) rfl ?_); refine store_event (t := 30) (p := 236) (v := ?vo236) (w1 := ?w1236) ?hg236 ?ho236 ?hn236 ?hr236 ?_; (case ho236 => rfl); (case hg236 => rfl); (case hn236 => rfl); (case hr236 => (go_simp;rfl)); intro W_ hw; have n0_ := Aside0.mk (HS.out.put hw); clear hw HS cI cO fO; have HS := n0_; clear n0_; have cI := HS.out.cellI; have cO := HS.out.cellD; have fO := HS.out.freeO) | ((with_reducible refine gate_store (t := 30) (p := 240) rfl ?_); refine store_event (t := 30) (p := 240) (v := ?vo240) (w1 := ?w1240) ?hg240 ?ho240 ?hn240 ?hr240 ?_; (case ho240 => rfl); (case hg240 => rfl); (case hn240 => rfl); (case hr240 => (go_simp;rfl)); intro W_ hw; have n0_ := Aside0.mk (HS.out.put hw); clear hw HS cI cO fO; have HS := n0_; clear n0_; have cI := HS.out.cellI; have cO := HS.out.cellD; have fO := HS.out.freeO))
  refine bodyPost_end (results_none rfl _ _ _) rfl ?_
  have hrow := HS.out.row
  simp only [List.replicate, List.set] at hrow
  have hrow2 : W_.heap[O]? = some (.cells ((lit12 l).map (Value.int .u32)).toArray 30 (0, 0)) := by unfold lit12; exact hrow
  rw [lit12_is] at hrow2
  exact ⟨rfl, hrow2, HS.out.kept, HS.out.below⟩
end Go.Proofs.YtidcmpjcghbofaaDoor.Q
