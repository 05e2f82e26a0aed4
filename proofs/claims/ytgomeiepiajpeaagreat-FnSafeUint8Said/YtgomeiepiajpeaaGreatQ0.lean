-- written by programs of ours (wip/tools) out of the kit's printer: the functions of one law, less those that are shared or proved by hand
import Derived.Test.YtgomeiepiajpeaaGreatProg
import Derived.Below
import Derived.Deep.Draws
import Derived.Deep.AppendLies
import Derived.Maps.AppendAt
import Derived.OwnWalk
import Derived.Laws.BytesArg
import Derived.Laws.MakeOwn
import Derived.Laws.OwnMore
import Derived.Deep.OwnRows
import Derived.Tactics
import Derived.Lib.ConvBytes
import Derived.Laws.Slices
import Derived.WalkKit
import Derived.KernelRfl
import Derived.RowKit3
import Derived.Deep.LoopGhost
import Derived.Deep.QuietTactic
import Derived.BigQuiet
import Derived.WideLaws
import Derived.Deep.DeepCutAuto
import Derived.Deep.CutBlock
import Derived.Deep.RegionHeld3
import Derived.Laws.Rows
import Derived.Lib.AppendStr
import Derived.ArgAppend
import Derived.Laws.IdiomCopy
import Derived.OrdersHeld
import Derived.Laws.BitsLemmas
import Derived.RowKit
import Derived.Test.YtgomeiepiajpeaaGreatV
namespace Go.Proofs.YtgomeiepiajpeaaGreat.Q
open Go.RowKit Go.Proofs.YtgomeiepiajpeaaGreatW.PrintWords Go.Proofs.YtgomeiepiajpeaaGreatW.PrintLast Go.Proofs.YtgomeiepiajpeaaGreatW.PrintMore
attribute [local go_sem] max2_int min2_int max_two min_two max_three min_three max_four min_four
set_option linter.unusedVariables false
set_option linter.unusedSimpArgs false

def errW : Option Int → Value
  | none => .nilIface
  | some c => .iface 0 (.int .i64 c)
theorem errW_none : errW none = .nilIface := rfl
theorem errW_some (c : Int) : errW (some c) = .iface 0 (.int .i64 c) := rfl
theorem info22 : (Tryz.prog.info? 22).map (fun i => (i.zero, i.size, i.bytes)) = some (some (.int .u32 0), 1, 4) := by kernel_rfl
theorem info30 : (Tryz.prog.info? 30).map (fun i => (i.zero, i.size, i.bytes)) = some (some (.int .u64 0), 1, 8) := by kernel_rfl
/-! #### struct type 218 -/
structure S218 where
  f0 : ByteArray
  f1 : ByteArray
def z218 : S218 := ⟨(⟨#[]⟩ : ByteArray), (⟨#[]⟩ : ByteArray)⟩
def k218 : Kd S218 := Kd.iso (Kd.pair Kd.string Kd.string) (fun x : S218 => (x.f0, x.f1))
theorem k218_heap : Kd.Heap k218 := Kd.heap_iso _ (Kd.heap_pair Kd.heap_string Kd.heap_string)
theorem k218_open {w : World} {x : S218} {cs : List Value} (h : k218.K w x cs) : cs = [.string x.f0, .string x.f1] := by
  obtain ⟨_, _, rfl, rfl, rfl⟩ := h
  exact rfl
theorem k218_openM {w : World} {base : Nat} {ok : Nat → Prop} {x : S218} {cs : List Value} (h : k218.M w base ok x cs) : cs = [.string x.f0, .string x.f1] := by
  obtain ⟨_, _, rfl, rfl, rfl⟩ := h
  exact rfl
theorem k218_mk (w : World) (x : S218)  : k218.K w x [.string x.f0, .string x.f1] := ⟨[.string x.f0], [.string x.f1], rfl, rfl, rfl⟩
theorem k218_mkM (w : World) (base : Nat) (ok : Nat → Prop) (x : S218)  : k218.M w base ok x [.string x.f0, .string x.f1] := ⟨[.string x.f0], [.string x.f1], rfl, rfl, rfl⟩
theorem k218_mkF (W : World) (ok : Nat → Prop) (x : S218) : Kd.FK k218 W ok x [.string x.f0, .string x.f1] := fun W2 _ => k218_mk W2 x
def rd_T218 (xs : List S218) (i : Int) : S218 := xs.getD i.toNat z218
theorem at_T218 {w : World} {A : Option Addr} {n : Nat} {xs : List S218} (h : Kd.C k218 w A n xs) (i : Int) (h0 : 0 ≤ i) (h1 : i < n) : ∃ ad , A = some ad ∧ w.cell? (ad.add (i.toNat * 2)) = some (.string (rd_T218 xs i).f0) ∧ w.cell? ⟨(ad.add (i.toNat * 2)).block, (ad.add (i.toNat * 2)).off + 1, none⟩ = some (.string (rd_T218 xs i).f1) := by
  obtain ⟨ad, c, e, _, hK, hc0⟩ := Kd.C_get h z218 i h0 h1
  have hc : ∀ j u, c[j]? = some u → w.cell? (ad.add (i.toNat * 2 + j)) = some u := hc0
  obtain rfl := k218_open hK
  exact ⟨ad, e, hc 0 _ rfl, by rw [← add_field _ _ 1 (by omega)]; exact hc 1 _ rfl⟩
end Go.Proofs.YtgomeiepiajpeaaGreat.Q
