/- impl.SafeUint32 and SafeUint8 at the eight integer types. -/
import Derived.Test.YtgomeiepiajpeaaGreatSz
namespace Go.Proofs.YtgomeiepiajpeaaGreat.Q
open Go.RowKit Go.Proofs.YtgomeiepiajpeaaGreatW.PrintWords Go.Proofs.YtgomeiepiajpeaaGreatW.PrintLast Go.Proofs.YtgomeiepiajpeaaGreatW.PrintMore
set_option linter.unusedVariables false
set_option linter.unusedSimpArgs false
/-- An integer type. -/
def tyA (n : Int) (s : Bool) : Value := .agg #[.int .i64 2, .int .i64 n, .bool s, .int .i64 0, .int .i64 0, .int .i64 0, .string ⟨#[]⟩, .bool false, .slice none 0 0, .slice none 0 0]
set_option maxHeartbeats 1000000 in
set_option maxRecDepth 100000 in
theorem id162 (p : Value) (w : World) : Calls Tryz.prog 162 #[p] w fun e w' => e = .returned (.int .i64 3) ∧ w' = w := by
  go_enter Tryz.func162, Tryz.ntmps162
  go_wp2
  go_ret
  exact ⟨rfl, rfl⟩
set_option maxHeartbeats 1000000 in
set_option maxRecDepth 100000 in
theorem ai8s (w : World) : Calls Tryz.prog 20 #[tyA 8 true] w fun e w' => ∃ b, e = .returned (.iface 108 (.pointer (some ⟨b, 0, none⟩))) ∧ Below w.heap.size w w' := by
  unfold tyA
  go_enter Tryz.func20, Tryz.ntmps20
  go_wp2
  go_ret
  exact ⟨_, rfl, below_alloc (below_alloc (Below.refl _ _) _) _⟩
set_option maxHeartbeats 1000000 in
set_option maxRecDepth 100000 in
theorem at8s (w : World) : Calls Tryz.prog 11 #[tyA 8 true] w fun e w' => ∃ b, e = .returned (.iface 108 (.pointer (some ⟨b, 0, none⟩))) ∧ Below w.heap.size w w' := by
  have HA := Aside0.mk (fun W => ai8s W)
  unfold tyA at HA ⊢
  go_enter Tryz.func11, Tryz.ntmps11
  go_wp2_with (first | (go_at_call 20; refine (HA.out _).mono ?_; rintro e w1 ⟨b, rfl, hb⟩; have HB := Aside0.mk hb; clear hb))
  go_ret
  exact ⟨_, rfl, (below_alloc (Below.refl _ _) _).trans (HB.out.mono (by simp))⟩
set_option maxHeartbeats 1000000 in
set_option maxRecDepth 100000 in
theorem su5_8s (w : World) : Calls Tryz.prog 5 #[.int .i64 8, .bool true] w fun e w' => e = .returned (.tuple #[.int .u32 0, .int .u32 127, .bool true]) ∧ Below w.heap.size w w' := by
  have HA := Aside0.mk (at8s w)
  unfold tyA at HA
  have h1 := fun (a : Addr) (W : World) => (show (nilAhead 348 108 (.pointer (some a)) "ID").run Tryz.prog W = .ok (some false) W by kernel_rfl)
  have h2 := fun (a : Addr) (W : World) => (show (method 348 108 (.pointer (some a)) "ID").run Tryz.prog W = .ok (162, .pointer (some a)) W by kernel_rfl)
  go_enter Tryz.func5, Tryz.ntmps5
  go_wp2_with (first | (go_at_call 11; refine HA.out.mono ?_; rintro e w1 ⟨b, rfl, hb⟩; have HB := Aside0.mk hb; clear hb) | (go_at_call 162; refine (id162 _ _).mono ?_; rintro e w2 ⟨rfl, hw⟩; subst w2) | (go_at_call 12; refine (mm12_3 _).mono ?_; rintro e w3 ⟨rfl, hw⟩; subst w3))
  refine bodyPost_ret_by (v := .tuple #[.int .u32 0, .int .u32 127, .bool true]) ?_ rfl ⟨rfl, HB.out⟩
  simp [results, Tryz.results5, go_sem]
set_option maxHeartbeats 1000000 in
set_option maxRecDepth 100000 in
theorem su10_8s (w : World) : Calls Tryz.prog 10 #[.int .i64 8, .bool true] w fun e w' => e = .returned (.tuple #[.int .u8 0, .int .u8 127, .bool true]) ∧ Below w.heap.size w w' := by
  have HA := Aside0.mk (at8s w)
  unfold tyA at HA
  have h1 := fun (a : Addr) (W : World) => (show (nilAhead 348 108 (.pointer (some a)) "ID").run Tryz.prog W = .ok (some false) W by kernel_rfl)
  have h2 := fun (a : Addr) (W : World) => (show (method 348 108 (.pointer (some a)) "ID").run Tryz.prog W = .ok (162, .pointer (some a)) W by kernel_rfl)
  go_enter Tryz.func10, Tryz.ntmps10
  go_wp2_with (first | (go_at_call 11; refine HA.out.mono ?_; rintro e w1 ⟨b, rfl, hb⟩; have HB := Aside0.mk hb; clear hb) | (go_at_call 162; refine (id162 _ _).mono ?_; rintro e w2 ⟨rfl, hw⟩; subst w2) | (go_at_call 19; refine (mm19_3 _).mono ?_; rintro e w3 ⟨rfl, hw⟩; subst w3))
  refine bodyPost_ret_by (v := .tuple #[.int .u8 0, .int .u8 127, .bool true]) ?_ rfl ⟨rfl, HB.out⟩
  simp [results, Tryz.results10, go_sem]
set_option maxHeartbeats 1000000 in
set_option maxRecDepth 100000 in
theorem id165 (p : Value) (w : World) : Calls Tryz.prog 165 #[p] w fun e w' => e = .returned (.int .i64 5) ∧ w' = w := by
  go_enter Tryz.func165, Tryz.ntmps165
  go_wp2
  go_ret
  exact ⟨rfl, rfl⟩
set_option maxHeartbeats 1000000 in
set_option maxRecDepth 100000 in
theorem ai16s (w : World) : Calls Tryz.prog 20 #[tyA 16 true] w fun e w' => ∃ b, e = .returned (.iface 110 (.pointer (some ⟨b, 0, none⟩))) ∧ Below w.heap.size w w' := by
  unfold tyA
  go_enter Tryz.func20, Tryz.ntmps20
  go_wp2
  go_ret
  exact ⟨_, rfl, below_alloc (below_alloc (Below.refl _ _) _) _⟩
set_option maxHeartbeats 1000000 in
set_option maxRecDepth 100000 in
theorem at16s (w : World) : Calls Tryz.prog 11 #[tyA 16 true] w fun e w' => ∃ b, e = .returned (.iface 110 (.pointer (some ⟨b, 0, none⟩))) ∧ Below w.heap.size w w' := by
  have HA := Aside0.mk (fun W => ai16s W)
  unfold tyA at HA ⊢
  go_enter Tryz.func11, Tryz.ntmps11
  go_wp2_with (first | (go_at_call 20; refine (HA.out _).mono ?_; rintro e w1 ⟨b, rfl, hb⟩; have HB := Aside0.mk hb; clear hb))
  go_ret
  exact ⟨_, rfl, (below_alloc (Below.refl _ _) _).trans (HB.out.mono (by simp))⟩
set_option maxHeartbeats 1000000 in
set_option maxRecDepth 100000 in
theorem su5_16s (w : World) : Calls Tryz.prog 5 #[.int .i64 16, .bool true] w fun e w' => e = .returned (.tuple #[.int .u32 0, .int .u32 32767, .bool true]) ∧ Below w.heap.size w w' := by
  have HA := Aside0.mk (at16s w)
  unfold tyA at HA
  have h1 := fun (a : Addr) (W : World) => (show (nilAhead 348 110 (.pointer (some a)) "ID").run Tryz.prog W = .ok (some false) W by kernel_rfl)
  have h2 := fun (a : Addr) (W : World) => (show (method 348 110 (.pointer (some a)) "ID").run Tryz.prog W = .ok (165, .pointer (some a)) W by kernel_rfl)
  go_enter Tryz.func5, Tryz.ntmps5
  go_wp2_with (first | (go_at_call 11; refine HA.out.mono ?_; rintro e w1 ⟨b, rfl, hb⟩; have HB := Aside0.mk hb; clear hb) | (go_at_call 165; refine (id165 _ _).mono ?_; rintro e w2 ⟨rfl, hw⟩; subst w2) | (go_at_call 12; refine (mm12_5 _).mono ?_; rintro e w3 ⟨rfl, hw⟩; subst w3))
  refine bodyPost_ret_by (v := .tuple #[.int .u32 0, .int .u32 32767, .bool true]) ?_ rfl ⟨rfl, HB.out⟩
  simp [results, Tryz.results5, go_sem]
set_option maxHeartbeats 1000000 in
set_option maxRecDepth 100000 in
theorem su10_16s (w : World) : Calls Tryz.prog 10 #[.int .i64 16, .bool true] w fun e w' => e = .returned (.tuple #[.int .u8 0, .int .u8 255, .bool true]) ∧ Below w.heap.size w w' := by
  have HA := Aside0.mk (at16s w)
  unfold tyA at HA
  have h1 := fun (a : Addr) (W : World) => (show (nilAhead 348 110 (.pointer (some a)) "ID").run Tryz.prog W = .ok (some false) W by kernel_rfl)
  have h2 := fun (a : Addr) (W : World) => (show (method 348 110 (.pointer (some a)) "ID").run Tryz.prog W = .ok (165, .pointer (some a)) W by kernel_rfl)
  go_enter Tryz.func10, Tryz.ntmps10
  go_wp2_with (first | (go_at_call 11; refine HA.out.mono ?_; rintro e w1 ⟨b, rfl, hb⟩; have HB := Aside0.mk hb; clear hb) | (go_at_call 165; refine (id165 _ _).mono ?_; rintro e w2 ⟨rfl, hw⟩; subst w2) | (go_at_call 19; refine (mm19_5 _).mono ?_; rintro e w3 ⟨rfl, hw⟩; subst w3))
  refine bodyPost_ret_by (v := .tuple #[.int .u8 0, .int .u8 255, .bool true]) ?_ rfl ⟨rfl, HB.out⟩
  simp [results, Tryz.results10, go_sem]
set_option maxHeartbeats 1000000 in
set_option maxRecDepth 100000 in
theorem id168 (p : Value) (w : World) : Calls Tryz.prog 168 #[p] w fun e w' => e = .returned (.int .i64 7) ∧ w' = w := by
  go_enter Tryz.func168, Tryz.ntmps168
  go_wp2
  go_ret
  exact ⟨rfl, rfl⟩
set_option maxHeartbeats 1000000 in
set_option maxRecDepth 100000 in
theorem ai32s (w : World) : Calls Tryz.prog 20 #[tyA 32 true] w fun e w' => ∃ b, e = .returned (.iface 112 (.pointer (some ⟨b, 0, none⟩))) ∧ Below w.heap.size w w' := by
  unfold tyA
  go_enter Tryz.func20, Tryz.ntmps20
  go_wp2
  go_ret
  exact ⟨_, rfl, below_alloc (below_alloc (Below.refl _ _) _) _⟩
set_option maxHeartbeats 1000000 in
set_option maxRecDepth 100000 in
theorem at32s (w : World) : Calls Tryz.prog 11 #[tyA 32 true] w fun e w' => ∃ b, e = .returned (.iface 112 (.pointer (some ⟨b, 0, none⟩))) ∧ Below w.heap.size w w' := by
  have HA := Aside0.mk (fun W => ai32s W)
  unfold tyA at HA ⊢
  go_enter Tryz.func11, Tryz.ntmps11
  go_wp2_with (first | (go_at_call 20; refine (HA.out _).mono ?_; rintro e w1 ⟨b, rfl, hb⟩; have HB := Aside0.mk hb; clear hb))
  go_ret
  exact ⟨_, rfl, (below_alloc (Below.refl _ _) _).trans (HB.out.mono (by simp))⟩
set_option maxHeartbeats 1000000 in
set_option maxRecDepth 100000 in
theorem su5_32s (w : World) : Calls Tryz.prog 5 #[.int .i64 32, .bool true] w fun e w' => e = .returned (.tuple #[.int .u32 0, .int .u32 2147483647, .bool true]) ∧ Below w.heap.size w w' := by
  have HA := Aside0.mk (at32s w)
  unfold tyA at HA
  have h1 := fun (a : Addr) (W : World) => (show (nilAhead 348 112 (.pointer (some a)) "ID").run Tryz.prog W = .ok (some false) W by kernel_rfl)
  have h2 := fun (a : Addr) (W : World) => (show (method 348 112 (.pointer (some a)) "ID").run Tryz.prog W = .ok (168, .pointer (some a)) W by kernel_rfl)
  go_enter Tryz.func5, Tryz.ntmps5
  go_wp2_with (first | (go_at_call 11; refine HA.out.mono ?_; rintro e w1 ⟨b, rfl, hb⟩; have HB := Aside0.mk hb; clear hb) | (go_at_call 168; refine (id168 _ _).mono ?_; rintro e w2 ⟨rfl, hw⟩; subst w2) | (go_at_call 12; refine (mm12_7 _).mono ?_; rintro e w3 ⟨rfl, hw⟩; subst w3))
  refine bodyPost_ret_by (v := .tuple #[.int .u32 0, .int .u32 2147483647, .bool true]) ?_ rfl ⟨rfl, HB.out⟩
  simp [results, Tryz.results5, go_sem]
set_option maxHeartbeats 1000000 in
set_option maxRecDepth 100000 in
theorem su10_32s (w : World) : Calls Tryz.prog 10 #[.int .i64 32, .bool true] w fun e w' => e = .returned (.tuple #[.int .u8 0, .int .u8 255, .bool true]) ∧ Below w.heap.size w w' := by
  have HA := Aside0.mk (at32s w)
  unfold tyA at HA
  have h1 := fun (a : Addr) (W : World) => (show (nilAhead 348 112 (.pointer (some a)) "ID").run Tryz.prog W = .ok (some false) W by kernel_rfl)
  have h2 := fun (a : Addr) (W : World) => (show (method 348 112 (.pointer (some a)) "ID").run Tryz.prog W = .ok (168, .pointer (some a)) W by kernel_rfl)
  go_enter Tryz.func10, Tryz.ntmps10
  go_wp2_with (first | (go_at_call 11; refine HA.out.mono ?_; rintro e w1 ⟨b, rfl, hb⟩; have HB := Aside0.mk hb; clear hb) | (go_at_call 168; refine (id168 _ _).mono ?_; rintro e w2 ⟨rfl, hw⟩; subst w2) | (go_at_call 19; refine (mm19_7 _).mono ?_; rintro e w3 ⟨rfl, hw⟩; subst w3))
  refine bodyPost_ret_by (v := .tuple #[.int .u8 0, .int .u8 255, .bool true]) ?_ rfl ⟨rfl, HB.out⟩
  simp [results, Tryz.results10, go_sem]
set_option maxHeartbeats 1000000 in
set_option maxRecDepth 100000 in
theorem id171 (p : Value) (w : World) : Calls Tryz.prog 171 #[p] w fun e w' => e = .returned (.int .i64 9) ∧ w' = w := by
  go_enter Tryz.func171, Tryz.ntmps171
  go_wp2
  go_ret
  exact ⟨rfl, rfl⟩
set_option maxHeartbeats 1000000 in
set_option maxRecDepth 100000 in
theorem ai64s (w : World) : Calls Tryz.prog 20 #[tyA 64 true] w fun e w' => ∃ b, e = .returned (.iface 114 (.pointer (some ⟨b, 0, none⟩))) ∧ Below w.heap.size w w' := by
  unfold tyA
  go_enter Tryz.func20, Tryz.ntmps20
  go_wp2
  go_ret
  exact ⟨_, rfl, below_alloc (below_alloc (Below.refl _ _) _) _⟩
set_option maxHeartbeats 1000000 in
set_option maxRecDepth 100000 in
theorem at64s (w : World) : Calls Tryz.prog 11 #[tyA 64 true] w fun e w' => ∃ b, e = .returned (.iface 114 (.pointer (some ⟨b, 0, none⟩))) ∧ Below w.heap.size w w' := by
  have HA := Aside0.mk (fun W => ai64s W)
  unfold tyA at HA ⊢
  go_enter Tryz.func11, Tryz.ntmps11
  go_wp2_with (first | (go_at_call 20; refine (HA.out _).mono ?_; rintro e w1 ⟨b, rfl, hb⟩; have HB := Aside0.mk hb; clear hb))
  go_ret
  exact ⟨_, rfl, (below_alloc (Below.refl _ _) _).trans (HB.out.mono (by simp))⟩
set_option maxHeartbeats 1000000 in
set_option maxRecDepth 100000 in
theorem su5_64s (w : World) : Calls Tryz.prog 5 #[.int .i64 64, .bool true] w fun e w' => e = .returned (.tuple #[.int .u32 0, .int .u32 4294967295, .bool true]) ∧ Below w.heap.size w w' := by
  have HA := Aside0.mk (at64s w)
  unfold tyA at HA
  have h1 := fun (a : Addr) (W : World) => (show (nilAhead 348 114 (.pointer (some a)) "ID").run Tryz.prog W = .ok (some false) W by kernel_rfl)
  have h2 := fun (a : Addr) (W : World) => (show (method 348 114 (.pointer (some a)) "ID").run Tryz.prog W = .ok (171, .pointer (some a)) W by kernel_rfl)
  go_enter Tryz.func5, Tryz.ntmps5
  go_wp2_with (first | (go_at_call 11; refine HA.out.mono ?_; rintro e w1 ⟨b, rfl, hb⟩; have HB := Aside0.mk hb; clear hb) | (go_at_call 171; refine (id171 _ _).mono ?_; rintro e w2 ⟨rfl, hw⟩; subst w2) | (go_at_call 12; refine (mm12_9 _).mono ?_; rintro e w3 ⟨rfl, hw⟩; subst w3))
  refine bodyPost_ret_by (v := .tuple #[.int .u32 0, .int .u32 4294967295, .bool true]) ?_ rfl ⟨rfl, HB.out⟩
  simp [results, Tryz.results5, go_sem]
set_option maxHeartbeats 1000000 in
set_option maxRecDepth 100000 in
theorem su10_64s (w : World) : Calls Tryz.prog 10 #[.int .i64 64, .bool true] w fun e w' => e = .returned (.tuple #[.int .u8 0, .int .u8 255, .bool true]) ∧ Below w.heap.size w w' := by
  have HA := Aside0.mk (at64s w)
  unfold tyA at HA
  have h1 := fun (a : Addr) (W : World) => (show (nilAhead 348 114 (.pointer (some a)) "ID").run Tryz.prog W = .ok (some false) W by kernel_rfl)
  have h2 := fun (a : Addr) (W : World) => (show (method 348 114 (.pointer (some a)) "ID").run Tryz.prog W = .ok (171, .pointer (some a)) W by kernel_rfl)
  go_enter Tryz.func10, Tryz.ntmps10
  go_wp2_with (first | (go_at_call 11; refine HA.out.mono ?_; rintro e w1 ⟨b, rfl, hb⟩; have HB := Aside0.mk hb; clear hb) | (go_at_call 171; refine (id171 _ _).mono ?_; rintro e w2 ⟨rfl, hw⟩; subst w2) | (go_at_call 19; refine (mm19_9 _).mono ?_; rintro e w3 ⟨rfl, hw⟩; subst w3))
  refine bodyPost_ret_by (v := .tuple #[.int .u8 0, .int .u8 255, .bool true]) ?_ rfl ⟨rfl, HB.out⟩
  simp [results, Tryz.results10, go_sem]
set_option maxHeartbeats 1000000 in
set_option maxRecDepth 100000 in
theorem id174 (p : Value) (w : World) : Calls Tryz.prog 174 #[p] w fun e w' => e = .returned (.int .i64 2) ∧ w' = w := by
  go_enter Tryz.func174, Tryz.ntmps174
  go_wp2
  go_ret
  exact ⟨rfl, rfl⟩
set_option maxHeartbeats 1000000 in
set_option maxRecDepth 100000 in
theorem ai8u (w : World) : Calls Tryz.prog 20 #[tyA 8 false] w fun e w' => ∃ b, e = .returned (.iface 116 (.pointer (some ⟨b, 0, none⟩))) ∧ Below w.heap.size w w' := by
  unfold tyA
  go_enter Tryz.func20, Tryz.ntmps20
  go_wp2
  go_ret
  exact ⟨_, rfl, below_alloc (below_alloc (Below.refl _ _) _) _⟩
set_option maxHeartbeats 1000000 in
set_option maxRecDepth 100000 in
theorem at8u (w : World) : Calls Tryz.prog 11 #[tyA 8 false] w fun e w' => ∃ b, e = .returned (.iface 116 (.pointer (some ⟨b, 0, none⟩))) ∧ Below w.heap.size w w' := by
  have HA := Aside0.mk (fun W => ai8u W)
  unfold tyA at HA ⊢
  go_enter Tryz.func11, Tryz.ntmps11
  go_wp2_with (first | (go_at_call 20; refine (HA.out _).mono ?_; rintro e w1 ⟨b, rfl, hb⟩; have HB := Aside0.mk hb; clear hb))
  go_ret
  exact ⟨_, rfl, (below_alloc (Below.refl _ _) _).trans (HB.out.mono (by simp))⟩
set_option maxHeartbeats 1000000 in
set_option maxRecDepth 100000 in
theorem su5_8u (w : World) : Calls Tryz.prog 5 #[.int .i64 8, .bool false] w fun e w' => e = .returned (.tuple #[.int .u32 0, .int .u32 255, .bool true]) ∧ Below w.heap.size w w' := by
  have HA := Aside0.mk (at8u w)
  unfold tyA at HA
  have h1 := fun (a : Addr) (W : World) => (show (nilAhead 348 116 (.pointer (some a)) "ID").run Tryz.prog W = .ok (some false) W by kernel_rfl)
  have h2 := fun (a : Addr) (W : World) => (show (method 348 116 (.pointer (some a)) "ID").run Tryz.prog W = .ok (174, .pointer (some a)) W by kernel_rfl)
  go_enter Tryz.func5, Tryz.ntmps5
  go_wp2_with (first | (go_at_call 11; refine HA.out.mono ?_; rintro e w1 ⟨b, rfl, hb⟩; have HB := Aside0.mk hb; clear hb) | (go_at_call 174; refine (id174 _ _).mono ?_; rintro e w2 ⟨rfl, hw⟩; subst w2) | (go_at_call 12; refine (mm12_2 _).mono ?_; rintro e w3 ⟨rfl, hw⟩; subst w3))
  refine bodyPost_ret_by (v := .tuple #[.int .u32 0, .int .u32 255, .bool true]) ?_ rfl ⟨rfl, HB.out⟩
  simp [results, Tryz.results5, go_sem]
set_option maxHeartbeats 1000000 in
set_option maxRecDepth 100000 in
theorem su10_8u (w : World) : Calls Tryz.prog 10 #[.int .i64 8, .bool false] w fun e w' => e = .returned (.tuple #[.int .u8 0, .int .u8 255, .bool true]) ∧ Below w.heap.size w w' := by
  have HA := Aside0.mk (at8u w)
  unfold tyA at HA
  have h1 := fun (a : Addr) (W : World) => (show (nilAhead 348 116 (.pointer (some a)) "ID").run Tryz.prog W = .ok (some false) W by kernel_rfl)
  have h2 := fun (a : Addr) (W : World) => (show (method 348 116 (.pointer (some a)) "ID").run Tryz.prog W = .ok (174, .pointer (some a)) W by kernel_rfl)
  go_enter Tryz.func10, Tryz.ntmps10
  go_wp2_with (first | (go_at_call 11; refine HA.out.mono ?_; rintro e w1 ⟨b, rfl, hb⟩; have HB := Aside0.mk hb; clear hb) | (go_at_call 174; refine (id174 _ _).mono ?_; rintro e w2 ⟨rfl, hw⟩; subst w2) | (go_at_call 19; refine (mm19_2 _).mono ?_; rintro e w3 ⟨rfl, hw⟩; subst w3))
  refine bodyPost_ret_by (v := .tuple #[.int .u8 0, .int .u8 255, .bool true]) ?_ rfl ⟨rfl, HB.out⟩
  simp [results, Tryz.results10, go_sem]
set_option maxHeartbeats 1000000 in
set_option maxRecDepth 100000 in
theorem id177 (p : Value) (w : World) : Calls Tryz.prog 177 #[p] w fun e w' => e = .returned (.int .i64 4) ∧ w' = w := by
  go_enter Tryz.func177, Tryz.ntmps177
  go_wp2
  go_ret
  exact ⟨rfl, rfl⟩
set_option maxHeartbeats 1000000 in
set_option maxRecDepth 100000 in
theorem ai16u (w : World) : Calls Tryz.prog 20 #[tyA 16 false] w fun e w' => ∃ b, e = .returned (.iface 118 (.pointer (some ⟨b, 0, none⟩))) ∧ Below w.heap.size w w' := by
  unfold tyA
  go_enter Tryz.func20, Tryz.ntmps20
  go_wp2
  go_ret
  exact ⟨_, rfl, below_alloc (below_alloc (Below.refl _ _) _) _⟩
set_option maxHeartbeats 1000000 in
set_option maxRecDepth 100000 in
theorem at16u (w : World) : Calls Tryz.prog 11 #[tyA 16 false] w fun e w' => ∃ b, e = .returned (.iface 118 (.pointer (some ⟨b, 0, none⟩))) ∧ Below w.heap.size w w' := by
  have HA := Aside0.mk (fun W => ai16u W)
  unfold tyA at HA ⊢
  go_enter Tryz.func11, Tryz.ntmps11
  go_wp2_with (first | (go_at_call 20; refine (HA.out _).mono ?_; rintro e w1 ⟨b, rfl, hb⟩; have HB := Aside0.mk hb; clear hb))
  go_ret
  exact ⟨_, rfl, (below_alloc (Below.refl _ _) _).trans (HB.out.mono (by simp))⟩
set_option maxHeartbeats 1000000 in
set_option maxRecDepth 100000 in
theorem su5_16u (w : World) : Calls Tryz.prog 5 #[.int .i64 16, .bool false] w fun e w' => e = .returned (.tuple #[.int .u32 0, .int .u32 65535, .bool true]) ∧ Below w.heap.size w w' := by
  have HA := Aside0.mk (at16u w)
  unfold tyA at HA
  have h1 := fun (a : Addr) (W : World) => (show (nilAhead 348 118 (.pointer (some a)) "ID").run Tryz.prog W = .ok (some false) W by kernel_rfl)
  have h2 := fun (a : Addr) (W : World) => (show (method 348 118 (.pointer (some a)) "ID").run Tryz.prog W = .ok (177, .pointer (some a)) W by kernel_rfl)
  go_enter Tryz.func5, Tryz.ntmps5
  go_wp2_with (first | (go_at_call 11; refine HA.out.mono ?_; rintro e w1 ⟨b, rfl, hb⟩; have HB := Aside0.mk hb; clear hb) | (go_at_call 177; refine (id177 _ _).mono ?_; rintro e w2 ⟨rfl, hw⟩; subst w2) | (go_at_call 12; refine (mm12_4 _).mono ?_; rintro e w3 ⟨rfl, hw⟩; subst w3))
  refine bodyPost_ret_by (v := .tuple #[.int .u32 0, .int .u32 65535, .bool true]) ?_ rfl ⟨rfl, HB.out⟩
  simp [results, Tryz.results5, go_sem]
set_option maxHeartbeats 1000000 in
set_option maxRecDepth 100000 in
theorem su10_16u (w : World) : Calls Tryz.prog 10 #[.int .i64 16, .bool false] w fun e w' => e = .returned (.tuple #[.int .u8 0, .int .u8 255, .bool true]) ∧ Below w.heap.size w w' := by
  have HA := Aside0.mk (at16u w)
  unfold tyA at HA
  have h1 := fun (a : Addr) (W : World) => (show (nilAhead 348 118 (.pointer (some a)) "ID").run Tryz.prog W = .ok (some false) W by kernel_rfl)
  have h2 := fun (a : Addr) (W : World) => (show (method 348 118 (.pointer (some a)) "ID").run Tryz.prog W = .ok (177, .pointer (some a)) W by kernel_rfl)
  go_enter Tryz.func10, Tryz.ntmps10
  go_wp2_with (first | (go_at_call 11; refine HA.out.mono ?_; rintro e w1 ⟨b, rfl, hb⟩; have HB := Aside0.mk hb; clear hb) | (go_at_call 177; refine (id177 _ _).mono ?_; rintro e w2 ⟨rfl, hw⟩; subst w2) | (go_at_call 19; refine (mm19_4 _).mono ?_; rintro e w3 ⟨rfl, hw⟩; subst w3))
  refine bodyPost_ret_by (v := .tuple #[.int .u8 0, .int .u8 255, .bool true]) ?_ rfl ⟨rfl, HB.out⟩
  simp [results, Tryz.results10, go_sem]
set_option maxHeartbeats 1000000 in
set_option maxRecDepth 100000 in
theorem id180 (p : Value) (w : World) : Calls Tryz.prog 180 #[p] w fun e w' => e = .returned (.int .i64 6) ∧ w' = w := by
  go_enter Tryz.func180, Tryz.ntmps180
  go_wp2
  go_ret
  exact ⟨rfl, rfl⟩
set_option maxHeartbeats 1000000 in
set_option maxRecDepth 100000 in
theorem ai32u (w : World) : Calls Tryz.prog 20 #[tyA 32 false] w fun e w' => ∃ b, e = .returned (.iface 120 (.pointer (some ⟨b, 0, none⟩))) ∧ Below w.heap.size w w' := by
  unfold tyA
  go_enter Tryz.func20, Tryz.ntmps20
  go_wp2
  go_ret
  exact ⟨_, rfl, below_alloc (below_alloc (Below.refl _ _) _) _⟩
set_option maxHeartbeats 1000000 in
set_option maxRecDepth 100000 in
theorem at32u (w : World) : Calls Tryz.prog 11 #[tyA 32 false] w fun e w' => ∃ b, e = .returned (.iface 120 (.pointer (some ⟨b, 0, none⟩))) ∧ Below w.heap.size w w' := by
  have HA := Aside0.mk (fun W => ai32u W)
  unfold tyA at HA ⊢
  go_enter Tryz.func11, Tryz.ntmps11
  go_wp2_with (first | (go_at_call 20; refine (HA.out _).mono ?_; rintro e w1 ⟨b, rfl, hb⟩; have HB := Aside0.mk hb; clear hb))
  go_ret
  exact ⟨_, rfl, (below_alloc (Below.refl _ _) _).trans (HB.out.mono (by simp))⟩
set_option maxHeartbeats 1000000 in
set_option maxRecDepth 100000 in
theorem su5_32u (w : World) : Calls Tryz.prog 5 #[.int .i64 32, .bool false] w fun e w' => e = .returned (.tuple #[.int .u32 0, .int .u32 4294967295, .bool true]) ∧ Below w.heap.size w w' := by
  have HA := Aside0.mk (at32u w)
  unfold tyA at HA
  have h1 := fun (a : Addr) (W : World) => (show (nilAhead 348 120 (.pointer (some a)) "ID").run Tryz.prog W = .ok (some false) W by kernel_rfl)
  have h2 := fun (a : Addr) (W : World) => (show (method 348 120 (.pointer (some a)) "ID").run Tryz.prog W = .ok (180, .pointer (some a)) W by kernel_rfl)
  go_enter Tryz.func5, Tryz.ntmps5
  go_wp2_with (first | (go_at_call 11; refine HA.out.mono ?_; rintro e w1 ⟨b, rfl, hb⟩; have HB := Aside0.mk hb; clear hb) | (go_at_call 180; refine (id180 _ _).mono ?_; rintro e w2 ⟨rfl, hw⟩; subst w2) | (go_at_call 12; refine (mm12_6 _).mono ?_; rintro e w3 ⟨rfl, hw⟩; subst w3))
  refine bodyPost_ret_by (v := .tuple #[.int .u32 0, .int .u32 4294967295, .bool true]) ?_ rfl ⟨rfl, HB.out⟩
  simp [results, Tryz.results5, go_sem]
set_option maxHeartbeats 1000000 in
set_option maxRecDepth 100000 in
theorem su10_32u (w : World) : Calls Tryz.prog 10 #[.int .i64 32, .bool false] w fun e w' => e = .returned (.tuple #[.int .u8 0, .int .u8 255, .bool true]) ∧ Below w.heap.size w w' := by
  have HA := Aside0.mk (at32u w)
  unfold tyA at HA
  have h1 := fun (a : Addr) (W : World) => (show (nilAhead 348 120 (.pointer (some a)) "ID").run Tryz.prog W = .ok (some false) W by kernel_rfl)
  have h2 := fun (a : Addr) (W : World) => (show (method 348 120 (.pointer (some a)) "ID").run Tryz.prog W = .ok (180, .pointer (some a)) W by kernel_rfl)
  go_enter Tryz.func10, Tryz.ntmps10
  go_wp2_with (first | (go_at_call 11; refine HA.out.mono ?_; rintro e w1 ⟨b, rfl, hb⟩; have HB := Aside0.mk hb; clear hb) | (go_at_call 180; refine (id180 _ _).mono ?_; rintro e w2 ⟨rfl, hw⟩; subst w2) | (go_at_call 19; refine (mm19_6 _).mono ?_; rintro e w3 ⟨rfl, hw⟩; subst w3))
  refine bodyPost_ret_by (v := .tuple #[.int .u8 0, .int .u8 255, .bool true]) ?_ rfl ⟨rfl, HB.out⟩
  simp [results, Tryz.results10, go_sem]
set_option maxHeartbeats 1000000 in
set_option maxRecDepth 100000 in
theorem id183 (p : Value) (w : World) : Calls Tryz.prog 183 #[p] w fun e w' => e = .returned (.int .i64 8) ∧ w' = w := by
  go_enter Tryz.func183, Tryz.ntmps183
  go_wp2
  go_ret
  exact ⟨rfl, rfl⟩
set_option maxHeartbeats 1000000 in
set_option maxRecDepth 100000 in
theorem ai64u (w : World) : Calls Tryz.prog 20 #[tyA 64 false] w fun e w' => ∃ b, e = .returned (.iface 122 (.pointer (some ⟨b, 0, none⟩))) ∧ Below w.heap.size w w' := by
  unfold tyA
  go_enter Tryz.func20, Tryz.ntmps20
  go_wp2
  go_ret
  exact ⟨_, rfl, below_alloc (below_alloc (Below.refl _ _) _) _⟩
set_option maxHeartbeats 1000000 in
set_option maxRecDepth 100000 in
theorem at64u (w : World) : Calls Tryz.prog 11 #[tyA 64 false] w fun e w' => ∃ b, e = .returned (.iface 122 (.pointer (some ⟨b, 0, none⟩))) ∧ Below w.heap.size w w' := by
  have HA := Aside0.mk (fun W => ai64u W)
  unfold tyA at HA ⊢
  go_enter Tryz.func11, Tryz.ntmps11
  go_wp2_with (first | (go_at_call 20; refine (HA.out _).mono ?_; rintro e w1 ⟨b, rfl, hb⟩; have HB := Aside0.mk hb; clear hb))
  go_ret
  exact ⟨_, rfl, (below_alloc (Below.refl _ _) _).trans (HB.out.mono (by simp))⟩
set_option maxHeartbeats 1000000 in
set_option maxRecDepth 100000 in
theorem su5_64u (w : World) : Calls Tryz.prog 5 #[.int .i64 64, .bool false] w fun e w' => e = .returned (.tuple #[.int .u32 0, .int .u32 4294967295, .bool true]) ∧ Below w.heap.size w w' := by
  have HA := Aside0.mk (at64u w)
  unfold tyA at HA
  have h1 := fun (a : Addr) (W : World) => (show (nilAhead 348 122 (.pointer (some a)) "ID").run Tryz.prog W = .ok (some false) W by kernel_rfl)
  have h2 := fun (a : Addr) (W : World) => (show (method 348 122 (.pointer (some a)) "ID").run Tryz.prog W = .ok (183, .pointer (some a)) W by kernel_rfl)
  go_enter Tryz.func5, Tryz.ntmps5
  go_wp2_with (first | (go_at_call 11; refine HA.out.mono ?_; rintro e w1 ⟨b, rfl, hb⟩; have HB := Aside0.mk hb; clear hb) | (go_at_call 183; refine (id183 _ _).mono ?_; rintro e w2 ⟨rfl, hw⟩; subst w2) | (go_at_call 12; refine (mm12_8 _).mono ?_; rintro e w3 ⟨rfl, hw⟩; subst w3))
  refine bodyPost_ret_by (v := .tuple #[.int .u32 0, .int .u32 4294967295, .bool true]) ?_ rfl ⟨rfl, HB.out⟩
  simp [results, Tryz.results5, go_sem]
set_option maxHeartbeats 1000000 in
set_option maxRecDepth 100000 in
theorem su10_64u (w : World) : Calls Tryz.prog 10 #[.int .i64 64, .bool false] w fun e w' => e = .returned (.tuple #[.int .u8 0, .int .u8 255, .bool true]) ∧ Below w.heap.size w w' := by
  have HA := Aside0.mk (at64u w)
  unfold tyA at HA
  have h1 := fun (a : Addr) (W : World) => (show (nilAhead 348 122 (.pointer (some a)) "ID").run Tryz.prog W = .ok (some false) W by kernel_rfl)
  have h2 := fun (a : Addr) (W : World) => (show (method 348 122 (.pointer (some a)) "ID").run Tryz.prog W = .ok (183, .pointer (some a)) W by kernel_rfl)
  go_enter Tryz.func10, Tryz.ntmps10
  go_wp2_with (first | (go_at_call 11; refine HA.out.mono ?_; rintro e w1 ⟨b, rfl, hb⟩; have HB := Aside0.mk hb; clear hb) | (go_at_call 183; refine (id183 _ _).mono ?_; rintro e w2 ⟨rfl, hw⟩; subst w2) | (go_at_call 19; refine (mm19_8 _).mono ?_; rintro e w3 ⟨rfl, hw⟩; subst w3))
  refine bodyPost_ret_by (v := .tuple #[.int .u8 0, .int .u8 255, .bool true]) ?_ rfl ⟨rfl, HB.out⟩
  simp [results, Tryz.results10, go_sem]
end Go.Proofs.YtgomeiepiajpeaaGreat.Q
