/- arrow.sizeOf[uint64] is 8. -/
import Derived.Test.YtgccaabpckfhlaaGreatDoorQ0
import Derived.StillTailTactics
namespace Go.Proofs.YtgccaabpckfhlaaGreatDoor.Q
open Go.RowKit Go.Proofs.YtgccaabpckfhlaaGreatDoorW.PrintWords Go.Proofs.YtgccaabpckfhlaaGreatDoorW.PrintLast Go.Proofs.YtgccaabpckfhlaaGreatDoorW.PrintMore
set_option linter.unusedVariables false
set_option linter.unusedSimpArgs false
set_option maxRecDepth 100000 in
theorem as78_79 (p : Value) : ∃ z, ∀ W : World, (Instr.typeAssert (.iface 78 p) 20 79 true).run Tryz.prog W = .ok (.tuple #[z, .bool false]) W := ⟨_, fun W => by rfl⟩
set_option maxRecDepth 100000 in
theorem as78_80 (p : Value) : ∃ z, ∀ W : World, (Instr.typeAssert (.iface 78 p) 20 80 true).run Tryz.prog W = .ok (.tuple #[z, .bool false]) W := ⟨_, fun W => by rfl⟩
set_option maxRecDepth 100000 in
theorem as78_81 (p : Value) : ∃ z, ∀ W : World, (Instr.typeAssert (.iface 78 p) 20 81 true).run Tryz.prog W = .ok (.tuple #[z, .bool false]) W := ⟨_, fun W => by rfl⟩
set_option maxRecDepth 100000 in
theorem as78_82 (p : Value) : ∃ z, ∀ W : World, (Instr.typeAssert (.iface 78 p) 20 82 true).run Tryz.prog W = .ok (.tuple #[z, .bool false]) W := ⟨_, fun W => by rfl⟩
set_option maxRecDepth 100000 in
theorem as78_83 (p : Value) : ∃ z, ∀ W : World, (Instr.typeAssert (.iface 78 p) 20 83 true).run Tryz.prog W = .ok (.tuple #[z, .bool false]) W := ⟨_, fun W => by rfl⟩
set_option maxRecDepth 100000 in
theorem as78_84 (p : Value) : ∃ z, ∀ W : World, (Instr.typeAssert (.iface 78 p) 20 84 true).run Tryz.prog W = .ok (.tuple #[z, .bool false]) W := ⟨_, fun W => by rfl⟩
set_option maxRecDepth 100000 in
theorem as78_85 (p : Value) : ∃ z, ∀ W : World, (Instr.typeAssert (.iface 78 p) 20 85 true).run Tryz.prog W = .ok (.tuple #[z, .bool false]) W := ⟨_, fun W => by rfl⟩
set_option maxRecDepth 100000 in
theorem as78_86 (p : Value) : ∃ z, ∀ W : World, (Instr.typeAssert (.iface 78 p) 20 86 true).run Tryz.prog W = .ok (.tuple #[z, .bool false]) W := ⟨_, fun W => by rfl⟩
set_option maxRecDepth 100000 in
theorem as78_87 (p : Value) : ∃ z, ∀ W : World, (Instr.typeAssert (.iface 78 p) 20 87 true).run Tryz.prog W = .ok (.tuple #[z, .bool false]) W := ⟨_, fun W => by rfl⟩
set_option maxRecDepth 100000 in
theorem as78_88 (p : Value) : ∃ z, ∀ W : World, (Instr.typeAssert (.iface 78 p) 20 88 true).run Tryz.prog W = .ok (.tuple #[z, .bool false]) W := ⟨_, fun W => by rfl⟩
set_option maxRecDepth 100000 in
theorem as78_89 (p : Value) : ∃ z, ∀ W : World, (Instr.typeAssert (.iface 78 p) 20 89 true).run Tryz.prog W = .ok (.tuple #[z, .bool false]) W := ⟨_, fun W => by rfl⟩
set_option maxRecDepth 100000 in
theorem as78_90 (p : Value) : ∃ z, ∀ W : World, (Instr.typeAssert (.iface 78 p) 20 90 true).run Tryz.prog W = .ok (.tuple #[z, .bool false]) W := ⟨_, fun W => by rfl⟩
set_option maxRecDepth 100000 in
theorem as78_91 (p : Value) : ∃ z, ∀ W : World, (Instr.typeAssert (.iface 78 p) 20 91 true).run Tryz.prog W = .ok (.tuple #[z, .bool false]) W := ⟨_, fun W => by rfl⟩
set_option maxRecDepth 100000 in
theorem as78_92 (p : Value) : ∃ z, ∀ W : World, (Instr.typeAssert (.iface 78 p) 20 92 true).run Tryz.prog W = .ok (.tuple #[z, .bool false]) W := ⟨_, fun W => by rfl⟩
set_option maxRecDepth 100000 in
theorem as78_93 (p : Value) : ∃ z, ∀ W : World, (Instr.typeAssert (.iface 78 p) 20 93 true).run Tryz.prog W = .ok (.tuple #[z, .bool false]) W := ⟨_, fun W => by rfl⟩
set_option maxRecDepth 100000 in
theorem as78_94 (p : Value) : ∃ z, ∀ W : World, (Instr.typeAssert (.iface 78 p) 20 94 true).run Tryz.prog W = .ok (.tuple #[z, .bool false]) W := ⟨_, fun W => by rfl⟩
set_option maxRecDepth 100000 in
theorem as78_95 (p : Value) : ∃ z, ∀ W : World, (Instr.typeAssert (.iface 78 p) 20 95 true).run Tryz.prog W = .ok (.tuple #[z, .bool false]) W := ⟨_, fun W => by rfl⟩
set_option maxRecDepth 100000 in
theorem as78_96 (p : Value) : ∃ z, ∀ W : World, (Instr.typeAssert (.iface 78 p) 20 96 true).run Tryz.prog W = .ok (.tuple #[z, .bool false]) W := ⟨_, fun W => by rfl⟩
set_option maxRecDepth 100000 in
theorem as78_97 (p : Value) : ∃ z, ∀ W : World, (Instr.typeAssert (.iface 78 p) 20 97 true).run Tryz.prog W = .ok (.tuple #[z, .bool false]) W := ⟨_, fun W => by rfl⟩
set_option maxRecDepth 100000 in
theorem as78_98 (p : Value) : ∃ z, ∀ W : World, (Instr.typeAssert (.iface 78 p) 20 98 true).run Tryz.prog W = .ok (.tuple #[z, .bool false]) W := ⟨_, fun W => by rfl⟩
set_option maxRecDepth 100000 in
theorem as78_99 (p : Value) : ∃ z, ∀ W : World, (Instr.typeAssert (.iface 78 p) 20 99 true).run Tryz.prog W = .ok (.tuple #[z, .bool false]) W := ⟨_, fun W => by rfl⟩
set_option maxRecDepth 100000 in
theorem as78_78 (p : Value) : ∀ W : World, (Instr.typeAssert (.iface 78 p) 20 78 true).run Tryz.prog W = .ok (.tuple #[p, .bool true]) W := fun W => by kernel_rfl
set_option maxHeartbeats 1000000 in
set_option maxRecDepth 100000 in
theorem sizeOf_calls (w : World) : Calls Tryz.prog 22 #[] w fun e w' => e = .returned (.int .i64 8) ∧ Below w.heap.size w w' := by
  obtain ⟨z79, h79⟩ := as78_79 (.pointer (some ⟨w.heap.size, 0, none⟩))
  obtain ⟨z80, h80⟩ := as78_80 (.pointer (some ⟨w.heap.size, 0, none⟩))
  obtain ⟨z81, h81⟩ := as78_81 (.pointer (some ⟨w.heap.size, 0, none⟩))
  obtain ⟨z82, h82⟩ := as78_82 (.pointer (some ⟨w.heap.size, 0, none⟩))
  obtain ⟨z83, h83⟩ := as78_83 (.pointer (some ⟨w.heap.size, 0, none⟩))
  obtain ⟨z84, h84⟩ := as78_84 (.pointer (some ⟨w.heap.size, 0, none⟩))
  obtain ⟨z85, h85⟩ := as78_85 (.pointer (some ⟨w.heap.size, 0, none⟩))
  obtain ⟨z86, h86⟩ := as78_86 (.pointer (some ⟨w.heap.size, 0, none⟩))
  obtain ⟨z87, h87⟩ := as78_87 (.pointer (some ⟨w.heap.size, 0, none⟩))
  obtain ⟨z88, h88⟩ := as78_88 (.pointer (some ⟨w.heap.size, 0, none⟩))
  obtain ⟨z89, h89⟩ := as78_89 (.pointer (some ⟨w.heap.size, 0, none⟩))
  obtain ⟨z90, h90⟩ := as78_90 (.pointer (some ⟨w.heap.size, 0, none⟩))
  obtain ⟨z91, h91⟩ := as78_91 (.pointer (some ⟨w.heap.size, 0, none⟩))
  obtain ⟨z92, h92⟩ := as78_92 (.pointer (some ⟨w.heap.size, 0, none⟩))
  obtain ⟨z93, h93⟩ := as78_93 (.pointer (some ⟨w.heap.size, 0, none⟩))
  obtain ⟨z94, h94⟩ := as78_94 (.pointer (some ⟨w.heap.size, 0, none⟩))
  obtain ⟨z95, h95⟩ := as78_95 (.pointer (some ⟨w.heap.size, 0, none⟩))
  obtain ⟨z96, h96⟩ := as78_96 (.pointer (some ⟨w.heap.size, 0, none⟩))
  obtain ⟨z97, h97⟩ := as78_97 (.pointer (some ⟨w.heap.size, 0, none⟩))
  obtain ⟨z98, h98⟩ := as78_98 (.pointer (some ⟨w.heap.size, 0, none⟩))
  have h78 := as78_78 (.pointer (some ⟨w.heap.size, 0, none⟩))
  go_enter Tryz.func22, Tryz.ntmps22
  go_wp2
  go_ret
  exact ⟨rfl, below_alloc (Below.refl _ _) _⟩
set_option maxHeartbeats 1000000 in
set_option maxRecDepth 100000 in
theorem SizeOf_calls (w : World) : Calls Tryz.prog 12 #[] w fun e w' => e = .returned (.int .i64 8) ∧ Below w.heap.size w w' := by
  have HS := Aside0.mk (sizeOf_calls w)
  go_enter Tryz.func12, Tryz.ntmps12
  go_wp2_with (first | (go_at_call 22; refine HS.out.mono ?_; rintro e w1 ⟨rfl, hb⟩; have HB := Aside0.mk hb; clear hb))
  go_ret
  exact ⟨rfl, HB.out⟩
end Go.Proofs.YtgccaabpckfhlaaGreatDoor.Q
