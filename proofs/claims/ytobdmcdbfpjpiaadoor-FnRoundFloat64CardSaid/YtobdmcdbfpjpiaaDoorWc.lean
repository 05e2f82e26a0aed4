/- math.Pow10; the ten ways of rounding. -/
import Derived.Test.YtobdmcdbfpjpiaaDoorWb
namespace Go.Proofs.YtobdmcdbfpjpiaaDoor.Q
open Go.RowKit Go.Proofs.YtobdmcdbfpjpiaaDoorW.PrintWords Go.Proofs.YtobdmcdbfpjpiaaDoorW.PrintLast Go.Proofs.YtobdmcdbfpjpiaaDoorW.PrintMore
set_option linter.unusedVariables false
set_option linter.unusedSimpArgs false
/-- Powers of ten. -/
def tenL : List Nat := [4607182418800017408, 4621819117588971520, 4636737291354636288, 4652007308841189376, 4666723172467343360, 4681608360884174848, 4696837146684686336, 4711630319722168320, 4726483295884279808, 4741671816366391296, 4756540486875873280, 4771362005757984768, 4786511204640096256, 4801453603149578240, 4816244402031689728, 4831355200913801216, 4846369599423283200, 4861130398305394688, 4876203697187506176, 4891288408196988160, 4906019910204099648, 4921056587992461136, 4936209963552724370]
def tenW (n : Nat) : Nat := tenL.getD n 0
/-- math's tables. -/
def Glob (w : World) : Prop := w.cell? ⟨1, 0, none⟩ = some (.float .f64 4607182418800017408) ∧ ∀ n : Nat, n < 23 → w.cell? ⟨2, n, none⟩ = some (.float .f64 (tenW n))
theorem Glob.drewN {w : World} (h : Glob w) (n : Nat) : Glob (w.drewN n) := h
theorem Glob.block {w : World} (h : Glob w) : 2 < w.heap.size := World.block_lt_of_cell? w _ (h.2 0 (by omega))
theorem Glob.below {w w' : World} {B : Nat} (h : Glob w) (hb : Below B w w') (hB : 2 < B) : Glob w' := by
  have e1 := hb.block 1 (by omega)
  have e2 := hb.block 2 (by omega)
  refine ⟨?_, fun n hn => ?_⟩
  · have := h.1
    unfold World.cell? at this ⊢
    rw [e1]; exact this
  · have := h.2 n hn
    unfold World.cell? at this ⊢
    rw [e2]; exact this
theorem ten_one (n : Nat) (h : n < 23) : Ieee.double.mul 4607182418800017408 (tenW n) = some (tenW n) := by
  have : (List.range 23).all (fun n => Ieee.double.mul 4607182418800017408 (tenW n) == some (tenW n)) = true := by decide +kernel
  have := List.all_eq_true.1 this n (List.mem_range.2 h)
  simpa using this
set_option maxHeartbeats 1000000 in
set_option maxRecDepth 100000 in
theorem pow10_calls (n : Nat) (h : n < 23) (w : World) (hG : Glob w) : Calls Tryd.prog 19 #[.int .i64 (n : Int)] w fun e w' => e = .returned (.float .f64 (tenW n)) ∧ Drawn0 w w' := by
  have c1 := hG.1
  have c2 := hG.2 n h
  have hm := fun (t : TypeId) (W : World) => run_float_arith (P := Tryd.prog) W .mul t .f64 _ _ _ (ten_one n h)
  have q1 : IntKind.u64.wrap (n : Int) = (n : Int) := by rw [IntKind.wrap_u64]; omega
  have q2 : (n : Int) / 32 = 0 := by omega
  have q3 : Int.tmod (n : Int) 32 = (n : Int) := by rw [Int.tmod_eq_emod_of_nonneg (by omega)]; omega
  have q4 : Int.tdiv (n : Int) 32 = 0 := by rw [Int.tdiv_eq_ediv_of_nonneg (by omega)]; omega
  have g1 : (n : Int) < 32 := by omega
  have g2 : decide ((n : Int) ≤ 308) = true := decide_eq_true (by omega)
  clear hG h
  generalize tenW n = t at *
  go_enter Tryd.func19, Tryd.ntmps19
  go_wp2
  go_quiet (fail)
  go_wp2
  go_ret
  exact ⟨rfl, ⟨_, rfl⟩⟩
end Go.Proofs.YtobdmcdbfpjpiaaDoor.Q
