/- FnCompareUint64 returns true at every input that can be read. No condition. -/
import Derived.Test.YtgccaabpckfhlaaGreatDoorCards
import Derived.Test.YtgccaabpckfhlaaGreatDoorTie
import Derived.Deep.DeepHandedRow
import Derived.Lay
import Derived.SevenTiedAt
import Derived.Lib.LaidTab
import Derived.Stop.LaidErr
import Derived.ChangeVars
import Derived.Test.YtgccaabpckfhlaaGreatDoorQCUe
import Derived.Test.YtgccaabpckfhlaaGreatDoorZp
import Derived.WalkKit
import Derived.ProofKit
import Derived.OpenShut
import Derived.ShutString
import Derived.ChangeOld
import Derived.Below
import Derived.SizedLaws
import Derived.Test.YtgccaabpckfhlaaGreatDoorWSized
namespace Go.Proofs.YtgccaabpckfhlaaGreatDoor.fnCompareUint64
open Go.ChangeShapes Go.WideShapes Go.ChangeAt Go.RowKit
open Go.ChangeMaps (open_string shut_string)
set_option linter.unusedVariables false
theorem own : ownKnob Tryz.prog.godebug = none := by kernel_rfl
theorem laidOut : laidOutB Tryz.prog = true := by kernel_rfl
def IsRow (k : IntKind) (w : World) (a : Option Addr) (len cap : Nat) (zs : List Int) : Prop :=
  (a = none ∧ len = 0 ∧ cap = 0 ∧ zs = []) ∨
  ∃ x, a = some x ∧ len ≤ cap ∧ cap ≤ maxLen ∧ zs.length = cap ∧ (∀ i, i < zs.length → w.cell? (x.add i) = some (.int k (zs.getD i 0))) ∧ ∀ n ∈ zs, (Lit.int k n).wf = true
noncomputable def laidWorld (os : Os) : World := World.laidAll Tryz.prog os Rows.fnCompareUint64Row.laid
theorem laid_met (os : Os) : laidMet Tryz.prog Rows.fnCompareUint64Row.laid ((laidWorld os).forCall (fun _ _ => 0) ⟨#[], #[.int .i64 0, .int .i64 0, .slice none 0 0, .slice none 0 0, .slice none 0 0, .int .i64 0], []⟩).memory := laidMet_laidAll _ (by kernel_rfl) (by kernel_rfl)
theorem reads (os : Os) {H : Type} (enc : TypeId × Value → H) : ∃ places, DataW.whole enc Tryz.prog ((laidWorld os).forCall (fun _ _ => 0) ⟨#[], #[.int .i64 0, .int .i64 0, .slice none 0 0, .slice none 0 0, .slice none 0 0, .int .i64 0], []⟩).memory Tryz.f3.params.toList Rows.fnCompareUint64Spec.vars false (#[.int .i64 0, .int .i64 0, .slice none 0 0, .slice none 0 0, .slice none 0 0, .int .i64 0] : Array Value).toList 8 = some ([.lit (.int .i64 0), .lit (.int .i64 0), .nil, .nil, .nil, .lit (.int .i64 0)], [Rows.laid_given_example_pub_arrowroot_pub_arrow_arrow_bitutil_BitMask, Rows.laid_given_example_pub_arrowroot_pub_arrow_arrow_bitutil_FlippedBitMask], places) :=
  ⟨MemPlace.row ⟨2, 0, none⟩ 8 ++ MemPlace.row ⟨3, 0, none⟩ 8, by kernel_rfl⟩
section
variable {H : Type} {enc : TypeId × Value → H} {P : Program}
theorem trod_int_any {k : IntKind} {e : TypeId} (he : P.underlying e = some (.int k)) (w w' : World) (sp sp' : Nat → Bool) (f : Nat) (cs : List Value) : DataW.trod enc P w 0 sp true f e cs = DataW.trod enc P w' 0 sp' true f e cs := by
  cases f with
  | zero => simp [DataW.trod]
  | succ n =>
    simp only [DataW.trod, he]
    rcases cs with _ | ⟨c, cs⟩
    · rfl
    · rcases cs with _ | ⟨d, cs⟩
      · cases c <;> rfl
      · cases c <;> rfl
theorem trod_tab_any {k : IntKind} {t e : TypeId} {n : Nat} (ht : P.underlying t = some (.array n e)) (he : P.underlying e = some (.int k)) (w w' : World) (sp sp' : Nat → Bool) (f : Nat) (cs : List Value) : DataW.trod enc P w 0 sp true f t cs = DataW.trod enc P w' 0 sp' true f t cs := by
  cases f with
  | zero => simp [DataW.trod]
  | succ f => simp only [DataW.trod, ht, trod_int_any he w w' sp sp' f]
theorem var_below {w w' : World} {n : String} {g B : Nat} {cs : Array Value} (h : w.var? P n = some cs) (hg : P.globalNamed n = some g) (hb : Below B w w') (hlt : g < B) : w'.var? P n = some cs := by
  simp only [World.var?, hg, Option.bind_some] at h ⊢
  rw [hb.block g hlt]
  exact h
theorem var_lt {w : World} {n : String} {g : Nat} {cs : Array Value} (h : w.var? P n = some cs) (hg : P.globalNamed n = some g) : g < w.heap.size := by
  simp only [World.var?, hg, Option.bind_some] at h
  rcases Nat.lt_or_ge g w.heap.size with hlt | hge
  · exact hlt
  · rw [Array.getElem?_eq_none hge] at h; cases h
end
theorem bm : Tryz.prog.globalNamed "given.example/pub-arrowroot/pub/arrow/arrow/bitutil.BitMask" = some 2 := by kernel_rfl
theorem fm : Tryz.prog.globalNamed "given.example/pub-arrowroot/pub/arrow/arrow/bitutil.FlippedBitMask" = some 3 := by kernel_rfl
theorem bmT : (Tryz.prog.globals[2]?).map (·.type) = some 174 := by kernel_rfl
theorem fmT : (Tryz.prog.globals[3]?).map (·.type) = some 174 := by kernel_rfl
theorem two_vars {H : Type} {enc : TypeId × Value → H} {W : World} {gs : List (DataW H)} {ps : List MemPlace} (h : DataW.TrodVars enc Tryz.prog W (fun _ => true) ["given.example/pub-arrowroot/pub/arrow/arrow/bitutil.BitMask", "given.example/pub-arrowroot/pub/arrow/arrow/bitutil.FlippedBitMask"] gs ps) :
    ∃ (G0 G1 : Nat) (e0 e1 : DataW H) (q : List MemPlace), gs = [e0, e1] ∧ ∀ (sp : Nat → Bool) {W' : World}, Below W.heap.size W W' → DataW.TrodVars enc Tryz.prog W' sp ["given.example/pub-arrowroot/pub/arrow/arrow/bitutil.BitMask", "given.example/pub-arrowroot/pub/arrow/arrow/bitutil.FlippedBitMask"] [e0, e1] q := by
  obtain ⟨g0, t0, cs0, f0, e0, q0, g1, t1, cs1, f1, e1, q1, rfl, hg0, ht0, hv0, hd0, hg1, ht1, hv1, hd1, rfl⟩ := trodVars_two h
  obtain rfl := Option.some.inj (bm.symm.trans hg0)
  obtain rfl := Option.some.inj (bmT.symm.trans ht0)
  obtain rfl := Option.some.inj (fm.symm.trans hg1)
  obtain rfl := Option.some.inj (fmT.symm.trans ht1)
  refine ⟨2, 3, e0, e1, _, rfl, fun sp W' hb => ⟨2, 174, cs0, f0, q0, _, hg0, ht0, var_below hv0 hg0 hb (var_lt hv0 hg0), ?_, ⟨3, 174, cs1, f1, q1, [], hg1, ht1, var_below hv1 hg1 hb (var_lt hv1 hg1), ?_, rfl, rfl⟩, rfl⟩⟩
  · rw [← trod_tab_any Tryz.underlying174 Tryz.underlying5 W W' (fun _ => true) sp]; exact hd0
  · rw [← trod_tab_any Tryz.underlying174 Tryz.underlying5 W W' (fun _ => true) sp]; exact hd1
theorem glob_of {W : World} (h : laidMet Tryz.prog Rows.fnCompareUint64Row.laid W) : Q.Glob W := by
  have h1 : Lib.TabIs Tryz.prog W "given.example/pub-arrowroot/pub/arrow/arrow/bitutil.BitMask" .u8 [1, 2, 4, 8, 16, 32, 64, 128] := Lib.tabIs_of_head (zs := [1, 2, 4, 8, 16, 32, 64, 128]) bm bmT Tryz.underlying174 Tryz.underlying5 (by kernel_rfl) (by kernel_rfl) h
  have h2 : Lib.TabIs Tryz.prog W "given.example/pub-arrowroot/pub/arrow/arrow/bitutil.FlippedBitMask" .u8 [254, 253, 251, 247, 239, 223, 191, 127] := Lib.tabIs_of_head (zs := [254, 253, 251, 247, 239, 223, 191, 127]) fm fmT Tryz.underlying174 Tryz.underlying5 (by kernel_rfl) (by kernel_rfl) (laidMet.tail h)
  intro r hr
  refine ⟨?_, ?_⟩
  · rw [h1.cell bm r (by simpa using hr)]
    match r, hr with
    | 0, _ => rfl
    | 1, _ => rfl
    | 2, _ => rfl
    | 3, _ => rfl
    | 4, _ => rfl
    | 5, _ => rfl
    | 6, _ => rfl
    | 7, _ => rfl
  · rw [h2.cell fm r (by simpa using hr)]
    match r, hr with
    | 0, _ => rfl
    | 1, _ => rfl
    | 2, _ => rfl
    | 3, _ => rfl
    | 4, _ => rfl
    | 5, _ => rfl
    | 6, _ => rfl
    | 7, _ => rfl
set_option maxRecDepth 100000 in
theorem lifted (os : Os) (started : os.Started) (H : Type) (enc : TypeId × Value → H) (F : Stop.Interp) :
    ReturnsInHanded {} Tryz.checked os 3 .any ((OpenSpec.ofChange Rows.fnCompareUint64Spec).preRow enc Tryz.prog Tryz.f3 Rows.fnCompareUint64Row.domain false Rows.fnCompareUint64Row.laid) (((OpenSpec.ofChange Rows.fnCompareUint64Spec).at F).post enc Tryz.prog Tryz.f3 false true false false) := by
  obtain ⟨places, hx⟩ := reads os enc
  refine returnsInHanded_of_row (C := Tryz.checked) (s := OpenSpec.ofChange Rows.fnCompareUint64Spec) own started (by kernel_rfl) Tryz.func3
    (witness_row_at (enc := enc) (C := Tryz.checked) false (laidWorld os) #[.int .i64 0, .int .i64 0, .slice none 0 0, .slice none 0 0, .slice none 0 0, .int .i64 0] (World.laidAll_os _ _ _) (by kernel_rfl) (by kernel_rfl) (by kernel_rfl)
      (OpenSpec.preRow_of_cond 8 hx (by kernel_rfl) (fun k hk => by cases hk) (by kernel_rfl) (laid_met os))) ?_
  intro W base args ds gs before hval0 hW _ _ hsz0 hL _ _
  have hsz : (DataW.weightsEach Tryz.prog (Tryz.f3.params.toList ++ Rows.fnCompareUint64Spec.plain.varTypes Tryz.prog) (ds ++ gs)).all (· ≤ reachBytes) = true := hsz0
  have hval : ∀ (j : Nat) t v, Tryz.f3.params[j]? = some t → args[j]? = some v → Value.okWide Tryz.prog W .any base t v := hval0
  have hW' := hW
  obtain ⟨p, q, hA0, hV, rfl, hfz, hnd⟩ := hW
  have hA : DataW.TrodAll enc Tryz.prog W 0 (fun _ => true) true Tryz.f3.params.toList args.toList ds p := hA0
  rw [Tryz.params3] at hA hval hsz
  obtain ⟨v0, vs0, d0, ds0, p0, q0, hargs, rfl, rfl, h0, r0⟩ := trodAll_cons hA
  obtain ⟨v1, vs1, d1, ds1, p1, q1, rfl, rfl, rfl, h1, r1⟩ := trodAll_cons r0
  obtain ⟨v2, vs2, d2, ds2, p2, q2, rfl, rfl, rfl, h2, r2⟩ := trodAll_cons r1
  obtain ⟨v3, vs3, d3, ds3, p3, q3, rfl, rfl, rfl, h3, r3⟩ := trodAll_cons r2
  obtain ⟨v4, vs4, d4, ds4, p4, q4, rfl, rfl, rfl, h4, r4⟩ := trodAll_cons r3
  obtain ⟨v5, vs5, d5, ds5, p5, q5, rfl, rfl, rfl, h5, r5⟩ := trodAll_cons r4
  obtain ⟨rfl, rfl, rfl⟩ := trodAll_nil r5
  obtain rfl : args = #[v0, v1, v2, v3, v4, v5] := by cases args; simp_all
  obtain ⟨G0, G1, e0, e1, q0, rfl, hVV⟩ := two_vars hV
  have hG : Q.Glob W := glob_of hL
  obtain ⟨a0, rfl, rfl, rfl, w0⟩ := open_int Tryz.underlying3 (hval 0 3 v0 rfl rfl) h0
  obtain ⟨a1, rfl, rfl, rfl, w1⟩ := open_int Tryz.underlying3 (hval 1 3 v1 rfl rfl) h1
  obtain ⟨a2, len2, cap2, rfl⟩ := okWide_slice Tryz.underlying22 (hval 2 22 v2 rfl rfl)
  have k2 := h2
  have lt2 : ∀ x ∈ p2, x.block < W.heap.size := by obtain ⟨m, hm⟩ := k2; exact DataW.trod_lt m _ _ _ hm
  obtain ⟨z2, w2⟩ : ∃ zs, IsRow .u64 W a2 len2 cap2 zs := by
    obtain ⟨fuel, hf⟩ := h2
    rcases open_ints Tryz.underlying22 Tryz.underlying26 (by kernel_rfl) hf with ⟨hcs, _⟩ | ⟨x, l, c, zs, hcs, _, hl, hm, hz, _, hcell, hwz⟩
    · simp [Value.cells] at hcs
      obtain ⟨rfl, rfl, rfl⟩ := hcs
      exact ⟨[], .inl ⟨rfl, rfl, rfl, rfl⟩⟩
    · simp [Value.cells] at hcs
      obtain ⟨rfl, rfl, rfl⟩ := hcs
      exact ⟨zs, .inr ⟨_, rfl, hl, hm, by simpa using hz, hcell, hwz⟩⟩
  have y2 : len2 * 8 ≤ 140737488351232 := Go.Proofs.YtgccaabpckfhlaaGreatDoorW.PrintWords.sized_ints hsz (j := 2) (t := 22) rfl rfl Tryz.underlying22 Tryz.underlying26 (by kernel_rfl) (by kernel_rfl) h2
  obtain ⟨a3, len3, cap3, rfl⟩ := okWide_slice Tryz.underlying22 (hval 3 22 v3 rfl rfl)
  have k3 := h3
  have lt3 : ∀ x ∈ p3, x.block < W.heap.size := by obtain ⟨m, hm⟩ := k3; exact DataW.trod_lt m _ _ _ hm
  obtain ⟨z3, w3⟩ : ∃ zs, IsRow .u64 W a3 len3 cap3 zs := by
    obtain ⟨fuel, hf⟩ := h3
    rcases open_ints Tryz.underlying22 Tryz.underlying26 (by kernel_rfl) hf with ⟨hcs, _⟩ | ⟨x, l, c, zs, hcs, _, hl, hm, hz, _, hcell, hwz⟩
    · simp [Value.cells] at hcs
      obtain ⟨rfl, rfl, rfl⟩ := hcs
      exact ⟨[], .inl ⟨rfl, rfl, rfl, rfl⟩⟩
    · simp [Value.cells] at hcs
      obtain ⟨rfl, rfl, rfl⟩ := hcs
      exact ⟨zs, .inr ⟨_, rfl, hl, hm, by simpa using hz, hcell, hwz⟩⟩
  have y3 : len3 * 8 ≤ 140737488351232 := Go.Proofs.YtgccaabpckfhlaaGreatDoorW.PrintWords.sized_ints hsz (j := 3) (t := 22) rfl rfl Tryz.underlying22 Tryz.underlying26 (by kernel_rfl) (by kernel_rfl) h3
  obtain ⟨a4, len4, cap4, rfl⟩ := okWide_slice Tryz.underlying23 (hval 4 23 v4 rfl rfl)
  have k4 := h4
  have lt4 : ∀ x ∈ p4, x.block < W.heap.size := by obtain ⟨m, hm⟩ := k4; exact DataW.trod_lt m _ _ _ hm
  obtain ⟨z4, w4⟩ : ∃ zs, IsRow .u8 W a4 len4 cap4 zs := by
    obtain ⟨fuel, hf⟩ := h4
    rcases open_ints Tryz.underlying23 Tryz.underlying5 (by kernel_rfl) hf with ⟨hcs, _⟩ | ⟨x, l, c, zs, hcs, _, hl, hm, hz, _, hcell, hwz⟩
    · simp [Value.cells] at hcs
      obtain ⟨rfl, rfl, rfl⟩ := hcs
      exact ⟨[], .inl ⟨rfl, rfl, rfl, rfl⟩⟩
    · simp [Value.cells] at hcs
      obtain ⟨rfl, rfl, rfl⟩ := hcs
      exact ⟨zs, .inr ⟨_, rfl, hl, hm, by simpa using hz, hcell, hwz⟩⟩
  have y4 : len4 * 1 ≤ 140737488351232 := Go.Proofs.YtgccaabpckfhlaaGreatDoorW.PrintWords.sized_ints hsz (j := 4) (t := 23) rfl rfl Tryz.underlying23 Tryz.underlying5 (by kernel_rfl) (by kernel_rfl) h4
  obtain ⟨a5, rfl, rfl, rfl, w5⟩ := open_int Tryz.underlying3 (hval 5 3 v5 rfl rfl) h5
  clear hA0 hval0 hsz0 hsz
  refine (Q.laws_FnCompareUint64.walk Q.law_pure a0 a1 a2 len2 cap2 z2 a3 len3 cap3 z3 a4 len4 cap4 z4 a5 W w0 w1 w2 y2 w3 y3 w4 y4 w5 hG).mono fun e W' ⟨he, bel⟩ => ?_
  subst he
  exact ⟨_, rfl, _, _, _, [], _, _, hW', trodAll_mk1 (shut_bool Tryz.underlying4 _), (trodAll_cons_mk (shut_int Tryz.underlying3 w0) (trodAll_cons_mk (shut_int Tryz.underlying3 w1) (trodAll_cons_mk (Below.trod laidOut (by kernel_rfl) (of_decide_eq_true (by kernel_rfl)) k2 bel lt2) (trodAll_cons_mk (Below.trod laidOut (by kernel_rfl) (of_decide_eq_true (by kernel_rfl)) k3 bel lt3) (trodAll_cons_mk (Below.trod laidOut (by kernel_rfl) (of_decide_eq_true (by kernel_rfl)) k4 bel lt4) (trodAll_cons_mk (shut_int Tryz.underlying3 w5) trodAll_mk0)))))), hVV _ bel, bel.frame _, fun h => by cases h⟩
theorem over : Rows.fnCompareUint64Row.holds Tryz.pinned (OpenSpec.ofChange Rows.fnCompareUint64Spec) :=
  OpenClaim.holds_of_cond 3 Tryz.f3 rfl rfl rfl rfl rfl rfl rfl ⟨rfl, rfl, rfl, rfl, rfl⟩ rfl rfl rfl rfl rfl (by kernel_rfl) Tryz.func3 (by kernel_rfl)
    (of_decide_eq_true (by kernel_rfl)) (by unfold Func.isWrapper; first | (rw [if_pos (by decide +kernel)]; kernel_rfl) | (rw [if_neg (by decide +kernel)]; exact ⟨rfl, rfl⟩))
    (fun os started H enc _ F => by rw [OpenClaim.pre_eq_preRow]; exact lifted os started H enc F)
/-- No parameter wants a stand-in; the program's own looks are off: what the card asks. -/
theorem plain (f : FuncId) (fn : Func) (hf : Tryz.pinned.checked.prog.funcNamed "given.example/pub-arrowroot/laws.FnCompareUint64" = some f) (hfn : Tryz.pinned.checked.prog.funcs[f]? = some fn) :
    true = Tryz.pinned.checked.prog.looks [] ∧ ∀ (j : Nat) t, fn.params[j]? = some t → Tryz.pinned.checked.prog.wantsStandIn t = false := by
  obtain rfl : f = 3 := Option.some.inj ((show Tryz.prog.funcNamed "given.example/pub-arrowroot/laws.FnCompareUint64" = some 3 by kernel_rfl).symm.trans hf) |>.symm
  obtain rfl : fn = Tryz.f3 := (Option.some.inj (Tryz.func3.symm.trans hfn)).symm
  refine ⟨by kernel_rfl, fun j t ht => ?_⟩
  rw [Tryz.params3] at ht
  have hm := Array.mem_of_getElem? ht
  simp only [List.mem_toArray, List.mem_cons, List.not_mem_nil, or_false] at hm
  rcases hm with rfl | rfl | rfl | rfl | rfl | rfl
  · exact (show Tryz.prog.wantsStandIn 3 = false by kernel_rfl)
  · exact (show Tryz.prog.wantsStandIn 3 = false by kernel_rfl)
  · exact (show Tryz.prog.wantsStandIn 22 = false by kernel_rfl)
  · exact (show Tryz.prog.wantsStandIn 22 = false by kernel_rfl)
  · exact (show Tryz.prog.wantsStandIn 23 = false by kernel_rfl)
  · exact (show Tryz.prog.wantsStandIn 3 = false by kernel_rfl)
theorem proved : Rows.FnCompareUint64CardSaid :=
  Claim7.holds_tied_plain_at .later [] _ _ _ _ over (fun _ h => by cases h) (by kernel_rfl) (fun _ h => by cases h) fnCompareUint64_row_tie rfl ⟨rfl, rfl⟩ (by kernel_rfl) rfl plain (by kernel_rfl)
end Go.Proofs.YtgccaabpckfhlaaGreatDoor.fnCompareUint64
namespace Go.Proofs.YtgccaabpckfhlaaGreatDoor
/-- The card, under a short name, for the claim. -/
theorem fnCompareUint64_holds : Rows.FnCompareUint64CardSaid := fnCompareUint64.proved
end Go.Proofs.YtgccaabpckfhlaaGreatDoor
