/- FnSameFixedSizeBinary returns true at every input that can be read. No condition. -/
import Derived.Test.YtndbeeboehekaaaGreatDoorCards
import Derived.Test.YtndbeeboehekaaaGreatDoorTie
import Derived.Deep.DeepHandedRow
import Derived.Lay
import Derived.SevenTiedAt
import Derived.Lib.LaidTab
import Derived.Stop.LaidErr
import Derived.ChangeVars
import Derived.Test.YtndbeeboehekaaaGreatDoorPs
import Derived.Test.YtndbeeboehekaaaGreatDoorRo
import Derived.OpenVars
import Derived.Deep.Strs
import Derived.WalkKit
import Derived.ProofKit
import Derived.OpenShut
import Derived.ShutString
import Derived.ChangeOld
import Derived.Below
import Derived.SizedLaws
import Derived.Test.YtndbeeboehekaaaGreatDoorWSized
namespace Go.Proofs.YtndbeeboehekaaaGreatDoor.fnSameFixedSizeBinary
open Go.ChangeShapes Go.WideShapes Go.ChangeAt Go.RowKit
open Go.ChangeMaps (open_string shut_string)
set_option linter.unusedVariables false
theorem own : ownKnob Tryz.prog.godebug = none := by kernel_rfl
theorem laidOut : laidOutB Tryz.prog = true := by kernel_rfl
noncomputable def laidWorld (os : Os) : World := World.laidAll Tryz.prog os Rows.fnSameFixedSizeBinaryRow.laid
theorem laid_met (os : Os) : laidMet Tryz.prog Rows.fnSameFixedSizeBinaryRow.laid ((laidWorld os).forCall (fun _ _ => 0) ⟨#[], #[.slice none 0 0, .int .i64 0, .int .i64 0, .slice none 0 0, .int .i64 0, .int .i64 0], []⟩).memory := laidMet_laidAll _ (by kernel_rfl) (by kernel_rfl)
theorem reads (os : Os) {H : Type} (enc : TypeId × Value → H) : ∃ places, DataW.whole enc Tryz.prog ((laidWorld os).forCall (fun _ _ => 0) ⟨#[], #[.slice none 0 0, .int .i64 0, .int .i64 0, .slice none 0 0, .int .i64 0, .int .i64 0], []⟩).memory Tryz.f3.params.toList Rows.fnSameFixedSizeBinarySpec.vars false (#[.slice none 0 0, .int .i64 0, .int .i64 0, .slice none 0 0, .int .i64 0, .int .i64 0] : Array Value).toList 8 = some ([.nil, .lit (.int .i64 0), .lit (.int .i64 0), .nil, .lit (.int .i64 0), .lit (.int .i64 0)], [Rows.laid_given_example_pub_arrowroot_pub_arrow_arrow_bitutil_PrecedingBitmask, Rows.laid_given_example_pub_arrowroot_pub_arrow_arrow_bitutil_TrailingBitmask, Rows.laid_given_example_pub_arrowroot_pub_arrow_arrow_bitutil_BitMask, Rows.laid_given_example_pub_arrowroot_spec_Exactly], places) :=
  ⟨MemPlace.row ⟨3, 0, none⟩ 8 ++ (MemPlace.row ⟨4, 0, none⟩ 8 ++ (MemPlace.row ⟨2, 0, none⟩ 8 ++ MemPlace.row ⟨0, 0, none⟩ 3)), by kernel_rfl⟩
theorem bm : Tryz.prog.globalNamed "given.example/pub-arrowroot/pub/arrow/arrow/bitutil.BitMask" = some 2 := by kernel_rfl
theorem bmT : (Tryz.prog.globals[2]?).map (·.type) = some 148 := by kernel_rfl
theorem em : Tryz.prog.globalNamed "given.example/pub-arrowroot/spec.Exactly" = some 0 := by kernel_rfl
theorem emT : (Tryz.prog.globals[0]?).map (·.type) = some 46 := by kernel_rfl
theorem four_vars {H : Type} {enc : TypeId × Value → H} {W : World} {sp : Nat → Bool} {a b c d : String} {gs : List (DataW H)} {ps : List MemPlace} (h : DataW.TrodVars enc Tryz.prog W sp [a, b, c, d] gs ps) : ∃ e0 e1 e2 e3, gs = [e0, e1, e2, e3] := by
  rcases gs with _ | ⟨e0, _ | ⟨e1, _ | ⟨e2, _ | ⟨e3, _ | ⟨e4, gs⟩⟩⟩⟩⟩
  · exact h.elim
  · obtain ⟨_, _, _, _, _, _, _, _, _, _, h, _⟩ := h
    exact h.elim
  · obtain ⟨_, _, _, _, _, _, _, _, _, _, h, _⟩ := h
    obtain ⟨_, _, _, _, _, _, _, _, _, _, h, _⟩ := h
    exact h.elim
  · obtain ⟨_, _, _, _, _, _, _, _, _, _, h, _⟩ := h
    obtain ⟨_, _, _, _, _, _, _, _, _, _, h, _⟩ := h
    obtain ⟨_, _, _, _, _, _, _, _, _, _, h, _⟩ := h
    exact h.elim
  · exact ⟨e0, e1, e2, e3, rfl⟩
  · obtain ⟨_, _, _, _, _, _, _, _, _, _, h, _⟩ := h
    obtain ⟨_, _, _, _, _, _, _, _, _, _, h, _⟩ := h
    obtain ⟨_, _, _, _, _, _, _, _, _, _, h, _⟩ := h
    obtain ⟨_, _, _, _, _, _, _, _, _, _, h, _⟩ := h
    exact h.elim
theorem trod_flt {H : Type} {enc : TypeId × Value → H} {P : Program} {w : World} {base : Nat} {spare : Nat → Bool} {held : Bool} {t : TypeId} {k : FloatKind} {fuel : Nat} {cs : List Value} {x : DataW H × List MemPlace} (ht : P.underlying t = some (.float k)) (h : DataW.trod enc P w base spare held fuel t cs = some x) : ∃ b, cs = [.float k b] ∧ x = (.lit (.float k b), []) := by
  cases fuel with
  | zero => simp [DataW.trod] at h
  | succ n =>
    unfold DataW.trod at h
    rw [ht] at h
    split at h <;> simp_all
    all_goals grind
set_option maxRecDepth 100000 in
theorem exactly_of {W : World} (h : laidMet Tryz.prog [("given.example/pub-arrowroot/spec.Exactly", Rows.laid_given_example_pub_arrowroot_spec_Exactly)] W) : Q.GlobE W := by
  obtain ⟨ps, ⟨g', t', cs, fuel, p, q, hg', ht', hvar, hd, _, _⟩, _⟩ := h
  obtain rfl := Option.some.inj (em.symm.trans hg')
  obtain rfl := Option.some.inj (emT.symm.trans ht')
  obtain ⟨y0, y1, y2, n, e, hl, f0, f1, f2⟩ := Go.Deep.trod_struct3 Tryz.underlying46 hd
  have c46 : Tryz.prog.cellsOf 46 = 3 := by kernel_rfl
  have t44 : Tryz.prog.cellsOf 44 = 1 := by kernel_rfl
  have t4 : Tryz.prog.cellsOf 4 = 1 := by kernel_rfl
  rw [c46] at hl
  obtain ⟨c, hc⟩ : ∃ c, c = cs.toList := ⟨_, rfl⟩
  have hget : ∀ i, cs[i]? = c[i]? := fun i => by rw [hc, Array.getElem?_toList]
  rw [← hc] at hl f0 f1 f2
  have hcell := fun i => World.var?_cell em hvar i
  clear hc hd
  match c, hl with
  | [v0, v1, v2], _ =>
    simp [t44, t4] at f0 f1 f2
    simp only [Prod.mk.injEq] at e
    have e1 := e.1
    unfold Rows.laid_given_example_pub_arrowroot_spec_Exactly at e1
    simp only [DataW.agg.injEq, List.cons.injEq, and_true] at e1
    obtain ⟨b1, q1, q2⟩ := DataW.trod_bool Tryz.underlying4 f1
    obtain ⟨b2, q3, q4⟩ := DataW.trod_bool Tryz.underlying4 f2
    obtain ⟨b0, q5, q6⟩ := trod_flt Tryz.underlying44 f0
    rw [q6, q2, q4] at e1
    obtain ⟨x0, x1, x2⟩ := e1
    simp only [DataW.lit.injEq, Lit.float.injEq, Lit.bool.injEq, true_and] at x0 x1 x2
    simp only [List.cons.injEq, and_true] at q1 q3 q5
    subst q1; subst q3; subst q5; subst x0; subst x1; subst x2
    exact ⟨(hcell 0).trans ((hget 0).trans rfl), (hcell 1).trans ((hget 1).trans rfl), (hcell 2).trans ((hget 2).trans rfl)⟩
theorem glob_of {W : World} (h : laidMet Tryz.prog Rows.fnSameFixedSizeBinaryRow.laid W) : Q.Glob W := by
  have h1 : Lib.TabIs Tryz.prog W "given.example/pub-arrowroot/pub/arrow/arrow/bitutil.BitMask" .u8 [1, 2, 4, 8, 16, 32, 64, 128] := Lib.tabIs_of_head (zs := [1, 2, 4, 8, 16, 32, 64, 128]) bm bmT Tryz.underlying148 Tryz.underlying5 (by kernel_rfl) (by kernel_rfl) h
  refine ⟨?_, exactly_of (laidMet.tail (laidMet.tail (laidMet.tail h)))⟩
  intro r hr
  rw [h1.cell bm r (by simpa using hr)]
  match r, hr with
  | 0, _ => rfl
  | 1, _ => rfl
  | 2, _ => rfl
  | 3, _ => rfl
  | 4, _ => rfl
  | 5, _ => rfl
  | 6, _ => rfl
  | 7, _ => rfl
set_option maxRecDepth 100000 in
theorem lifted (os : Os) (started : os.Started) (H : Type) (enc : TypeId × Value → H) (F : Stop.Interp) :
    ReturnsInHanded {} Tryz.checked os 3 .any ((OpenSpec.ofChange Rows.fnSameFixedSizeBinarySpec).preRow enc Tryz.prog Tryz.f3 Rows.fnSameFixedSizeBinaryRow.domain false Rows.fnSameFixedSizeBinaryRow.laid) (((OpenSpec.ofChange Rows.fnSameFixedSizeBinarySpec).at F).post enc Tryz.prog Tryz.f3 false true false false) := by
  obtain ⟨places, hx⟩ := reads os enc
  refine returnsInHanded_of_row (C := Tryz.checked) (s := OpenSpec.ofChange Rows.fnSameFixedSizeBinarySpec) own started (by kernel_rfl) Tryz.func3
    (witness_row_at (enc := enc) (C := Tryz.checked) false (laidWorld os) #[.slice none 0 0, .int .i64 0, .int .i64 0, .slice none 0 0, .int .i64 0, .int .i64 0] (World.laidAll_os _ _ _) (by kernel_rfl) (by kernel_rfl) (by kernel_rfl)
      (OpenSpec.preRow_of_cond 8 hx (by kernel_rfl) (fun k hk => by cases hk) (by kernel_rfl) (laid_met os))) ?_
  intro W base args ds gs before hval0 hW _ _ hsz0 hL _ _
  have hsz : (DataW.weightsEach Tryz.prog (Tryz.f3.params.toList ++ Rows.fnSameFixedSizeBinarySpec.plain.varTypes Tryz.prog) (ds ++ gs)).all (· ≤ reachBytes) = true := hsz0
  have hval : ∀ (j : Nat) t v, Tryz.f3.params[j]? = some t → args[j]? = some v → Value.okWide Tryz.prog W .any base t v := hval0
  have hW' := hW
  obtain ⟨p, q, hA0, hV, rfl, hfz, hnd⟩ := hW
  have hA : DataW.TrodAll enc Tryz.prog W 0 (fun _ => true) true Tryz.f3.params.toList args.toList ds p := hA0
  rw [Tryz.params3] at hA hval hsz
  obtain ⟨v0, vs0, d0, ds0, p0, q0, hargs, rfl, rfl, h0, r0⟩ := trodAll_cons hA
  obtain ⟨v1, vs1, d1, ds1, p1, q1, rfl, rfl, rfl, h1, r1⟩ := trodAll_cons r0
  obtain ⟨v2, vs2, d2, ds2, p2, q2, rfl, rfl, rfl, h2, r2⟩ := trodAll_cons r1
  obtain ⟨v3, vs3, d3, ds3, p3, q3, rfl, rfl, rfl, h3, r3⟩ := trodAll_cons r2
  obtain ⟨v4, vs4, d4, ds4, p4, q4, rfl, rfl, rfl, h4, r4⟩ := trodAll_cons r3
  obtain ⟨v5, vs5, d5, ds5, p5, q5, rfl, rfl, rfl, h5, r5⟩ := trodAll_cons r4
  obtain ⟨rfl, rfl, rfl⟩ := trodAll_nil r5
  obtain rfl : args = #[v0, v1, v2, v3, v4, v5] := by cases args; simp_all
  obtain ⟨e0, e1, e2, e3, rfl⟩ := four_vars hV
  have hG : Q.Glob W := glob_of hL
  obtain ⟨a0, len0, cap0, rfl⟩ := okWide_slice Tryz.underlying22 (hval 0 22 v0 rfl rfl)
  have k0 := h0
  have lt0 : ∀ x ∈ p0, x.block < W.heap.size := by obtain ⟨m, hm⟩ := k0; exact DataW.trod_lt m _ _ _ hm
  obtain ⟨fuel0, hf0⟩ := h0
  obtain ⟨A0, c0, l0, hcs0, g0, r0'⟩ := (Q.open_both fuel0).2 _ _ hf0
  simp [Value.cells] at hcs0
  obtain ⟨rfl, rfl, rfl⟩ := hcs0
  obtain ⟨i1, rfl, rfl, rfl, w1⟩ := open_int Tryz.underlying3 (hval 1 3 v1 rfl rfl) h1
  obtain ⟨i2, rfl, rfl, rfl, w2⟩ := open_int Tryz.underlying3 (hval 2 3 v2 rfl rfl) h2
  obtain ⟨a3, len3, cap3, rfl⟩ := okWide_slice Tryz.underlying22 (hval 3 22 v3 rfl rfl)
  have k3 := h3
  have lt3 : ∀ x ∈ p3, x.block < W.heap.size := by obtain ⟨m, hm⟩ := k3; exact DataW.trod_lt m _ _ _ hm
  obtain ⟨fuel3, hf3⟩ := h3
  obtain ⟨A3, c3, l3, hcs3, g3, r3'⟩ := (Q.open_both fuel3).2 _ _ hf3
  simp [Value.cells] at hcs3
  obtain ⟨rfl, rfl, rfl⟩ := hcs3
  obtain ⟨i4, rfl, rfl, rfl, w4⟩ := open_int Tryz.underlying3 (hval 4 3 v4 rfl rfl) h4
  obtain ⟨i5, rfl, rfl, rfl, w5⟩ := open_int Tryz.underlying3 (hval 5 3 v5 rfl rfl) h5
  obtain ⟨k, hlaw⟩ := Q.law_SF l0 i1 i2 l3 i4 i5
  clear hA0 hval0 hsz0 hsz
  refine (Q.laws_FnSameFixedSizeBinary.calls k a0 cap0 l0 i1 i2 a3 cap3 l3 i4 i5 true W r0' g0 r3' g3 hlaw hG).mono fun e W' ⟨he, bel⟩ => ?_
  subst he
  exact ⟨_, rfl, _, _, _, [], _, _, hW', trodAll_mk1 (shut_bool Tryz.underlying4 _), (trodAll_cons_mk (Below.trod laidOut (by kernel_rfl) (of_decide_eq_true (by kernel_rfl)) k0 bel lt0) (trodAll_cons_mk (shut_int Tryz.underlying3 w1) (trodAll_cons_mk (shut_int Tryz.underlying3 w2) (trodAll_cons_mk (Below.trod laidOut (by kernel_rfl) (of_decide_eq_true (by kernel_rfl)) k3 bel lt3) (trodAll_cons_mk (shut_int Tryz.underlying3 w4) (trodAll_cons_mk (shut_int Tryz.underlying3 w5) trodAll_mk0)))))), Below.trodVars laidOut bel (by kernel_rfl) hV, bel.frame _, fun h => by cases h⟩
theorem over : Rows.fnSameFixedSizeBinaryRow.holds Tryz.pinned (OpenSpec.ofChange Rows.fnSameFixedSizeBinarySpec) :=
  OpenClaim.holds_of_cond 3 Tryz.f3 rfl rfl rfl rfl rfl rfl rfl ⟨rfl, rfl, rfl, rfl, rfl⟩ rfl rfl rfl rfl rfl (by kernel_rfl) Tryz.func3 (by kernel_rfl)
    (of_decide_eq_true (by kernel_rfl)) (by unfold Func.isWrapper; first | (rw [if_pos (by decide +kernel)]; kernel_rfl) | (rw [if_neg (by decide +kernel)]; exact ⟨rfl, rfl⟩))
    (fun os started H enc _ F => by rw [OpenClaim.pre_eq_preRow]; exact lifted os started H enc F)
/-- No parameter wants a stand-in; the program's own looks are off: what the card asks. -/
theorem plain (f : FuncId) (fn : Func) (hf : Tryz.pinned.checked.prog.funcNamed "given.example/pub-arrowroot/laws.FnSameFixedSizeBinary" = some f) (hfn : Tryz.pinned.checked.prog.funcs[f]? = some fn) :
    true = Tryz.pinned.checked.prog.looks [] ∧ ∀ (j : Nat) t, fn.params[j]? = some t → Tryz.pinned.checked.prog.wantsStandIn t = false := by
  obtain rfl : f = 3 := Option.some.inj ((show Tryz.prog.funcNamed "given.example/pub-arrowroot/laws.FnSameFixedSizeBinary" = some 3 by kernel_rfl).symm.trans hf) |>.symm
  obtain rfl : fn = Tryz.f3 := (Option.some.inj (Tryz.func3.symm.trans hfn)).symm
  refine ⟨by kernel_rfl, fun j t ht => ?_⟩
  rw [Tryz.params3] at ht
  have hm := Array.mem_of_getElem? ht
  simp only [List.mem_toArray, List.mem_cons, List.not_mem_nil, or_false] at hm
  rcases hm with rfl | rfl | rfl | rfl | rfl | rfl
  · exact (show Tryz.prog.wantsStandIn 22 = false by kernel_rfl)
  · exact (show Tryz.prog.wantsStandIn 3 = false by kernel_rfl)
  · exact (show Tryz.prog.wantsStandIn 3 = false by kernel_rfl)
  · exact (show Tryz.prog.wantsStandIn 22 = false by kernel_rfl)
  · exact (show Tryz.prog.wantsStandIn 3 = false by kernel_rfl)
  · exact (show Tryz.prog.wantsStandIn 3 = false by kernel_rfl)
theorem proved : Rows.FnSameFixedSizeBinaryCardSaid :=
  Claim7.holds_tied_plain_at .later [] _ _ _ _ over (fun _ h => by cases h) (by kernel_rfl) (fun _ h => by cases h) fnSameFixedSizeBinary_row_tie rfl ⟨rfl, rfl⟩ (by kernel_rfl) rfl plain (by kernel_rfl)
end Go.Proofs.YtndbeeboehekaaaGreatDoor.fnSameFixedSizeBinary
namespace Go.Proofs.YtndbeeboehekaaaGreatDoor
/-- The card, under a short name, for the claim. -/
theorem fnSameFixedSizeBinary_holds : Rows.FnSameFixedSizeBinaryCardSaid := fnSameFixedSizeBinary.proved
end Go.Proofs.YtndbeeboehekaaaGreatDoor
