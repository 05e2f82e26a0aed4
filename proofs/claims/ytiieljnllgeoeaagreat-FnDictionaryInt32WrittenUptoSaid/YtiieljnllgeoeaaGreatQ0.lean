-- written by programs of ours (wip/tools) out of the kit's printer: the functions of one law, less those that are shared or proved by hand
import Derived.Test.YtiieljnllgeoeaaGreatProg
import Derived.Below
import Derived.Deep.Draws
import Derived.Deep.AppendLies
import Derived.Maps.AppendAt
import Derived.OwnWalk
import Derived.Laws.BytesArg
import Derived.Laws.MakeOwn
import Derived.Laws.OwnMore
import Derived.Deep.OwnRows
import Derived.Tactics
import Derived.Lib.ConvBytes
import Derived.Laws.Slices
import Derived.WalkKit
import Derived.KernelRfl
import Derived.RowKit3
import Derived.Deep.LoopGhost
import Derived.Deep.QuietTactic
import Derived.BigQuiet
import Derived.WideLaws
import Derived.Deep.DeepCutAuto
import Derived.Deep.CutBlock
import Derived.Deep.RegionHeld3
import Derived.Laws.Rows
import Derived.Lib.AppendStr
import Derived.ArgAppend
import Derived.Laws.IdiomCopy
import Derived.OrdersHeld
import Derived.Laws.BitsLemmas
import Derived.RowKit
import Derived.Test.YtiieljnllgeoeaaGreatV
namespace Go.Proofs.YtiieljnllgeoeaaGreat.Q
open Go.RowKit Go.Proofs.YtiieljnllgeoeaaGreatW.PrintWords Go.Proofs.YtiieljnllgeoeaaGreatW.PrintLast Go.Proofs.YtiieljnllgeoeaaGreatW.PrintMore
attribute [local go_sem] max2_int min2_int max_two min_two max_three min_three max_four min_four
set_option linter.unusedVariables false
set_option linter.unusedSimpArgs false

def errW : Option Int → Value
 | none => .nilIface
 | some c => .iface 0 (.int .i64 c)
theorem errW_none : errW none = .nilIface := rfl
theorem errW_some (c : Int) : errW (some c) = .iface 0 (.int .i64 c) := rfl
theorem info5 : (Tryz.prog.info? 5).map (fun i => (i.zero, i.size, i.bytes)) = some (some (.int .u8 0), 1, 1) := by kernel_rfl
theorem info21 : (Tryz.prog.info? 21).map (fun i => (i.zero, i.size, i.bytes)) = some (some (.int .i32 0), 1, 4) := by kernel_rfl
theorem info26 : (Tryz.prog.info? 26).map (fun i => (i.zero, i.size, i.bytes)) = some (some (.int .u64 0), 1, 8) := by kernel_rfl
theorem info29 : (Tryz.prog.info? 29).map (fun i => (i.zero, i.size, i.bytes)) = some (some (.agg #[(.bool false), (.int .u64 0), (.string ⟨#[]⟩), (.slice none 0 0)]), 4, 56) := by kernel_rfl
/-! #### struct type 29, nested in itself -/
structure S29 where
 f0 : Bool
 f1 : Int
 f2 : ByteArray
 f3 : (List S29)
def z29 : S29 := ⟨false, (0 : Int), (⟨#[]⟩ : ByteArray), ([] : List S29)⟩
def F29 (d : Kd S29) : Kd S29 := Kd.iso (Kd.pair Kd.bool (Kd.pair (Kd.int .u64) (Kd.pair Kd.string (Kd.slice 29 d)))) (fun x : S29 => (x.f0, x.f1, x.f2, x.f3))
theorem mono29 : Kd.Mono F29 := Kd.mono_iso _ (Kd.mono_pair (Kd.mono_const _) (Kd.mono_pair (Kd.mono_const _) (Kd.mono_pair (Kd.mono_const _) (Kd.mono_slice 29 Kd.mono_id))))
theorem sub29 : Kd.Sub F29 [29] := Kd.sub_iso _ (Kd.sub_pair (Kd.sub_const _ (by decide)) (Kd.sub_pair (Kd.sub_const _ (by decide)) (Kd.sub_pair (Kd.sub_const _ (by decide)) (Kd.sub_slice 29 (by decide) Kd.sub_id))))
theorem sz29 : ∀ n, (Kd.upto F29 4 [29] n).sz = 4 := Kd.upto_sz (fun _ => rfl)
def k29 : Kd S29 := Kd.fix F29 4 [29] sz29 (Kd.upto_E sub29)
theorem k29_heap : Kd.Heap k29 := Kd.heap_fix (fun _ h_ => Kd.heap_iso _ (Kd.heap_pair Kd.heap_bool (Kd.heap_pair (Kd.heap_int .u64) (Kd.heap_pair Kd.heap_string (Kd.heap_slice 29 h_)))))
theorem k29_open {w : World} {x : S29} {cs : List Value} (h : k29.K w x cs) : ∃ A3 c3, cs = [.bool x.f0, .int .u64 x.f1, .string x.f2, .slice A3 x.f3.length c3] ∧ x.f3.length ≤ c3 ∧ k29.C w A3 x.f3.length x.f3 := by
 obtain ⟨n, h⟩ := h
 cases n with
 | zero => exact h.elim
 | succ n =>
  obtain ⟨_, _, rfl, rfl, ⟨_, _, rfl, rfl, ⟨_, _, rfl, rfl, ⟨A3, c3, rfl, l3, g3⟩⟩⟩⟩ := h
  exact ⟨A3, c3, rfl, l3, Kd.fix_C g3⟩
theorem k29_mk (w : World) (x : S29) {A3 : Option Addr} {c3 : Nat} (l3 : x.f3.length ≤ c3) (g3 : k29.C w A3 x.f3.length x.f3) : k29.K w x [.bool x.f0, .int .u64 x.f1, .string x.f2, .slice A3 x.f3.length c3] := by
 obtain ⟨n3, q3⟩ := Kd.fix_C_back mono29 g3
 have r3 := Kd.upto_C_le mono29 sz29 (show n3 ≤ n3 by omega) q3
 exact ⟨n3 + 1, ⟨[.bool x.f0], [.int .u64 x.f1, .string x.f2, .slice A3 x.f3.length c3], rfl, rfl, ⟨[.int .u64 x.f1], [.string x.f2, .slice A3 x.f3.length c3], rfl, rfl, ⟨[.string x.f2], [.slice A3 x.f3.length c3], rfl, rfl, ⟨A3, c3, rfl, l3, r3⟩⟩⟩⟩⟩
theorem k29_mkF (W : World) (ok : Nat → Prop) (x : S29) {A3 : Option Addr} {c3 : Nat} (l3 : x.f3.length ≤ c3) (g3 : Kd.F k29 W ok A3 x.f3.length x.f3) : Kd.FK k29 W ok x [.bool x.f0, .int .u64 x.f1, .string x.f2, .slice A3 x.f3.length c3] := fun W2 hW => k29_mk W2 x l3 (g3 W2 hW)
def rd_T29 (xs : List S29) (i : Int) : S29 := xs.getD i.toNat z29
theorem at_T29 {w : World} {A : Option Addr} {n : Nat} {xs : List S29} (h : Kd.C k29 w A n xs) (i : Int) (h0 : 0 ≤ i) (h1 : i < n) : ∃ ad A3 c3, A = some ad ∧ w.cell? (ad.add (i.toNat * 4)) = some (.bool (rd_T29 xs i).f0) ∧ w.cell? ⟨(ad.add (i.toNat * 4)).block, (ad.add (i.toNat * 4)).off + 1, none⟩ = some (.int .u64 (rd_T29 xs i).f1) ∧ w.cell? ⟨(ad.add (i.toNat * 4)).block, (ad.add (i.toNat * 4)).off + 2, none⟩ = some (.string (rd_T29 xs i).f2) ∧ w.cell? ⟨(ad.add (i.toNat * 4)).block, (ad.add (i.toNat * 4)).off + 3, none⟩ = some (.slice A3 (rd_T29 xs i).f3.length c3) ∧ (rd_T29 xs i).f3.length ≤ c3 ∧ k29.C w A3 (rd_T29 xs i).f3.length (rd_T29 xs i).f3 := by
 obtain ⟨ad, c, e, _, hK, hc0⟩ := Kd.C_get h z29 i h0 h1
 have hc : ∀ j u, c[j]? = some u → w.cell? (ad.add (i.toNat * 4 + j)) = some u := hc0
 obtain ⟨A3, c3, rfl, l3, g3⟩ := k29_open hK
 exact ⟨ad, A3, c3, e, hc 0 _ rfl, by rw [← add_field _ _ 1 (by omega)]; exact hc 1 _ rfl, by rw [← add_field _ _ 2 (by omega)]; exact hc 2 _ rfl, by rw [← add_field _ _ 3 (by omega)]; exact hc 3 _ rfl, l3, g3⟩

def rd_L6 (xs : List (List S29)) (i : Int) : (List S29) := xs.getD i.toNat ([] : List S29)
theorem at_L6 {w : World} {A : Option Addr} {n : Nat} {xs : List (List S29)} (h : Kd.C (Kd.slice 29 k29) w A n xs) (i : Int) (h0 : 0 ≤ i) (h1 : i < n) : ∃ ad A0 c0, A = some ad ∧ w.cell? (ad.add i.toNat) = some (.slice A0 (rd_L6 xs i).length c0) ∧ (rd_L6 xs i).length ≤ c0 ∧ k29.C w A0 (rd_L6 xs i).length (rd_L6 xs i) := by
 obtain ⟨ad, c, e, _, hK, hc0⟩ := Kd.C_get h ([] : List S29) i h0 h1
 have hc : ∀ j u, c[j]? = some u → w.cell? (ad.add (i.toNat * 1 + j)) = some u := hc0
 obtain ⟨A0, c0, rfl, l0, g0⟩ := hK
 exact ⟨ad, A0, c0, e, by have hq := hc 0 _ rfl; rwa [Nat.mul_one, Nat.add_zero] at hq, l0, g0⟩
end Go.Proofs.YtiieljnllgeoeaaGreat.Q
