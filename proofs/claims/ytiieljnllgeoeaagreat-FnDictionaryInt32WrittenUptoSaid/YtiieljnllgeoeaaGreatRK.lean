/- FnDictionaryInt32Written returns true at every input of bulk at most 1048576. -/
import Derived.Test.YtiieljnllgeoeaaGreatRows
import Derived.Test.YtiieljnllgeoeaaGreatPZ
import Derived.WalkKit
import Derived.ProofKit
import Derived.OpenShut
import Derived.JoinedCond
import Derived.ChangeOld
import Derived.Below
namespace Go.Proofs.YtiieljnllgeoeaaGreat.fnDictionaryInt32Written
open Go.ChangeShapes Go.WideShapes Go.ChangeAt Go.RowKit
set_option linter.unusedVariables false
theorem own : ownKnob Tryz.prog.godebug = none := by kernel_rfl
theorem laidOut : laidOutB Tryz.prog = true := by kernel_rfl
set_option maxRecDepth 100000 in
theorem contract (H : Type) (enc : TypeId × Value → H) (W : World) (base : Nat) (args : Array Value) (ds gs : List (DataW H)) (before : List MemPlace)
  (hval : ∀ (j : Nat) t v, Tryz.f3.params[j]? = some t → args[j]? = some v → Value.okWide Tryz.prog W .any base t v)
  (hW : DataW.Whole enc Tryz.prog Tryz.f3.params.toList Rows.fnDictionaryInt32WrittenSpec.vars false W args.toList ds gs before) (hk : Rows.uptoSmall H (ds ++ gs) = true) :
  Calls Tryz.prog 3 args W fun e W' => ∃ v, e = .returned v ∧ Rows.fnDictionaryInt32WrittenSpec.post enc Tryz.prog Tryz.f3 false true false false W args v W' := by
 have hW' := hW
 obtain ⟨p, q, hA0, hV, rfl, hfz, hnd⟩ := hW
 have hA : DataW.TrodAll enc Tryz.prog W 0 (fun _ => true) true Tryz.f3.params.toList args.toList ds p := hA0
 rw [Tryz.params3] at hA hval
 obtain ⟨v0, vs0, d0, ds0, p0, q0, hargs, rfl, rfl, h0, r0⟩ := trodAll_cons hA
 obtain ⟨rfl, rfl, rfl⟩ := trodAll_nil r0
 obtain rfl : args = #[v0] := by cases args; simp_all
 obtain ⟨rfl, rfl⟩ := trodVars_none hV
 obtain ⟨a0, len0, cap0, rfl⟩ := okWide_slice Tryz.underlying22 (hval 0 22 v0 rfl rfl)
 have k0 := h0
 have lt0 : ∀ x ∈ p0, x.block < W.heap.size := by obtain ⟨m, hm⟩ := k0; exact DataW.trod_lt m _ _ _ hm
 obtain ⟨fuel, hf⟩ := h0
 obtain ⟨A, c, l, hcs, h1, h2, h3, h4, h5⟩ := Q.open_parts fuel _ _ hf
 simp [Value.cells] at hcs
 obtain ⟨rfl, rfl, rfl⟩ := hcs
 simp only [List.append_nil] at hW' hk
 have hbound : Rows.uptoBulkAll [d0] ≤ 1048576 := of_decide_eq_true hk
 simp only [Rows.uptoBulkAll] at hbound
 replace h4 : l.length ≤ Rows.uptoBulk d0 := h4
 replace h5 : l.flatten.length ≤ Rows.uptoBulk d0 := h5
 clear hA0
 obtain ⟨k, hlaw⟩ := Q.law_K l (by omega) (by omega) h3
 refine (Q.laws_FnDictionaryInt32Written.calls k a0 cap0 l true W h2 h1 hlaw).mono fun e W' ⟨he, bel⟩ => ?_
 subst he
 exact ⟨_, rfl, _, _, _, [], _, [], hW', trodAll_mk1 (shut_bool Tryz.underlying4 _), (trodAll_cons_mk (Below.trod laidOut (by kernel_rfl) (of_decide_eq_true (by kernel_rfl)) k0 bel lt0) trodAll_mk0), rfl, bel.frame _, fun h => by cases h⟩
set_option maxRecDepth 100000 in
theorem lifted (os : Os) (started : os.Started) (H : Type) (enc : TypeId × Value → H) (F : Stop.Interp) :
  ReturnsInHanded {} Tryz.checked os 3 .any ((Rows.OpenSpec.upto Rows.fnDictionaryInt32WrittenSpec).pre6 enc Tryz.prog Tryz.f3 Rows.fnDictionaryInt32WrittenUptoRow.domain false) (((Rows.OpenSpec.upto Rows.fnDictionaryInt32WrittenSpec).at F).post enc Tryz.prog Tryz.f3 false true false false) := by
 refine returnsInHanded_of_cond (C := Tryz.checked) (s := Rows.OpenSpec.upto Rows.fnDictionaryInt32WrittenSpec) (k := Rows.uptoSmall) rfl own started (by kernel_rfl) Tryz.func3
  (OpenSpec.witness (enc := enc) (C := Tryz.checked) (s := Rows.OpenSpec.upto Rows.fnDictionaryInt32WrittenSpec) (k := Rows.uptoSmall) rfl false ⟨#[], #[.slice none 0 0], []⟩ 8 (by kernel_rfl) (by kernel_rfl) (by kernel_rfl)
   (x := ([.nil], [], [])) (by kernel_rfl) rfl (by kernel_rfl)) ?_
 intro W base args ds gs before hval hW _ hk _
 exact contract H enc W base args ds gs before hval hW hk
theorem proved : Rows.FnDictionaryInt32WrittenUptoSaid :=
 OpenClaim.holds_of_cond 3 Tryz.f3 rfl rfl rfl rfl rfl rfl rfl ⟨rfl, rfl, rfl, rfl, rfl⟩ rfl rfl rfl rfl rfl (by kernel_rfl) Tryz.func3 (by kernel_rfl)
  (of_decide_eq_true (by kernel_rfl)) (by unfold Func.isWrapper; first | (rw [if_pos (by decide +kernel)]; kernel_rfl) | (rw [if_neg (by decide +kernel)]; exact ⟨rfl, rfl⟩))
  (fun os started H enc _ F => lifted os started H enc F)
end Go.Proofs.YtiieljnllgeoeaaGreat.fnDictionaryInt32Written
namespace Go.Proofs.YtiieljnllgeoeaaGreat
/-- The statement, under a short name, for the claim. -/
theorem fnDictionaryInt32WrittenUpto_holds : Rows.FnDictionaryInt32WrittenUptoSaid := fnDictionaryInt32Written.proved
end Go.Proofs.YtiieljnllgeoeaaGreat
