/- The encoder by a dictionary: its small steps. -/
import Derived.Test.YtiieljnllgeoeaaGreatHh
import Derived.Test.YtiieljnllgeoeaaGreatGk
namespace Go.Proofs.YtiieljnllgeoeaaGreat.Q
open Go.RowKit Go.Proofs.YtiieljnllgeoeaaGreatW.PrintWords Go.Proofs.YtiieljnllgeoeaaGreatW.PrintLast Go.Proofs.YtiieljnllgeoeaaGreatW.PrintMore
set_option linter.unusedVariables false
set_option linter.unusedSimpArgs false
set_option maxHeartbeats 1000000 in
set_option maxRecDepth 100000 in
theorem record_calls {w : World} {lo E T H M n S : Nat} {ds : Int} {iv : Value} {raw : Int} {es : List Ent} (h : Dc w lo E T H M es n S ds iv raw) (x : Int) :
  Calls Tryz.prog 33 #[.pointer (some ⟨E, 0, none⟩), .int .i32 x] w fun e w' => e = .returned (.tuple #[]) ∧ w' = w := by
 have c6 : w.cell? ⟨E, 6, none⟩ = some (.bool false) := (blk_cell h.e 6).trans rfl
 clear h
 go_enter Tryz.func33, Tryz.ntmps33
 go_wp2
 refine bodyPost_ret (results_none rfl _ _ _) rfl ?_
 exact ⟨rfl, rfl⟩
set_option maxHeartbeats 1000000 in
set_option maxRecDepth 100000 in
theorem addraw_calls {w : World} {lo E T H M n S : Nat} {ds : Int} {iv : Value} {raw : Int} {es : List Ent} (h : Dc w lo E T H M es n S ds iv raw) (x : Int) :
  Calls Tryz.prog 34 #[.pointer (some ⟨E, 0, none⟩), .int .i64 x] w fun e w' => e = .returned (.tuple #[]) ∧ ∃ raw', Dc w' lo E T H M es n S ds iv raw' ∧ Below lo w w' ∧ Kept w w' (fun k => k = E) := by
 have c9 : w.cell? ⟨E, 9, none⟩ = some (.int .i64 raw) := (blk_cell h.e 9).trans rfl
 have z9 := blk_frozen h.e 9
 have HD := Aside0.mk h
 clear h
 go_enter Tryz.func34, Tryz.ntmps34
 go_wp2
 go_end0
 exact ⟨rfl, _, HD.out.set 9 _ rfl, (HD.out.setF 9 _).below, (Kept.refl w (fun k => k = E)).setCell (p := ⟨E, 9, none⟩) (.inl rfl) _⟩
/-- The numbers' slice: none yet, or a row. -/
def Iv (w : World) (lo : Nat) (a : Option Addr) (c : Nat) (V : List Nat) : Prop := (a = none ∧ c = 0 ∧ V = []) ∨ ∃ I, a = some ⟨I, 0, none⟩ ∧ Ix w lo I c V
theorem made_i32 (n : Nat) : madeCells #[.int .i32 0] n = (List.replicate n (Value.int .i32 0)).toArray := by
 apply Array.ext'
 simp [madeCells]
 apply List.ext_getElem <;> simp
 intro i h1
 simp [Nat.mod_one]
theorem info21_some : (Tryz.prog.info? 21).isSome = true := by kernel_rfl
def i32O (n : Nat) : Obj := .cells (List.replicate n (Value.int .i32 0)).toArray 21
set_option maxRecDepth 100000 in
theorem make_i (m n : Nat) (hmn : m ≤ n) (h : n ≤ 100000000) (W : World) : (Instr.makeSlice 52 (.int .i64 (m : Int)) (.int .i64 (n : Int))).run Tryz.prog W = .ok (.slice (some ⟨W.heap.size, 0, none⟩) m n) (W.alloc (i32O n)) := by
 have hb : ((Tryz.prog.info? 21).get info21_some).bytes = 4 := by kernel_rfl
 have hs : ((Tryz.prog.info? 21).get info21_some).size = 1 := by kernel_rfl
 have hr := run_make (P := Tryz.prog) W 52 21 ((Tryz.prog.info? 21).get info21_some) (.int .i32 0) (by kernel_rfl) (Option.some_get _).symm (by kernel_rfl) .i64 .i64 (m : Int) (n : Int) (by omega) (by omega) (by rw [hb]; omega) (by omega)
 simp only [Int.toNat_natCast, hs, Nat.mul_one] at hr
 rw [hr]
 have : Value.cells (.int .i32 0) = #[.int .i32 0] := rfl
 rw [this, made_i32]
 rfl
theorem Dc.keptE {w w' : World} {lo E T H M n S : Nat} {ds ds' : Int} {iv iv' : Value} {raw raw' : Int} {es : List Ent} (h : Dc w lo E T H M es n S ds iv raw) (he : w'.heap[E]? = some (.cells (encL S T ds' iv' raw') 67 (0, 0))) (k : Kept w w' (fun g => g = E)) : Dc w' lo E T H M es n S ds' iv' raw' := by
 obtain ⟨e, l, ⟨ht, lt, ⟨hh, hm, l1, l2⟩⟩⟩ := h
 exact ⟨he, l, ⟨(k.2 T (blk_lt ht) (blk_ne ht e (by decide))).trans ht, lt, ⟨(k.2 H (blk_lt hh) (blk_ne hh e (by decide))).trans hh, (k.2 M (blk_lt hm) (blk_ne hm e (by decide))).trans hm, l1, l2⟩⟩⟩
/-- The numbers' row, made greater. -/
def Exp (w w' : World) (lo E T H M : Nat) (es : List Ent) (n S : Nat) (ds raw : Int) (a : Option Addr) (V : List Nat) (m : Nat) : Prop :=
 ∃ I c, (a = some ⟨I, 0, none⟩ ∨ w.heap.size ≤ I) ∧ Dc w' lo E T H M es n S ds (.slice (some ⟨I, 0, none⟩) V.length c) raw ∧ Ix w' lo I c V ∧ m ≤ c ∧ c ≤ 100000000 ∧ Kept w w' (fun k => k = E) ∧ Below lo w w'
set_option maxHeartbeats 4000000 in
set_option maxRecDepth 100000 in
theorem expand_calls {w : World} {lo E T H M n S c m : Nat} {ds : Int} {a : Option Addr} {raw : Int} {es : List Ent} {V : List Nat} (h : Dc w lo E T H M es n S ds (.slice a V.length c) raw) (hI : Iv w lo a c V) (hm : V.length < m) (hm2 : m ≤ 1000000) (hc : c ≤ 100000000) :
  Calls Tryz.prog 31 #[.pointer (some ⟨E, 0, none⟩), .int .i64 (m : Int)] w fun e w' => e = .returned (.tuple #[]) ∧ Exp w w' lo E T H M es n S ds raw a V m := by
 have c4 : w.cell? ⟨E, 4, none⟩ = some (.slice a V.length c) := (blk_cell h.e 4).trans rfl
 have z4 := blk_frozen h.e 4
 have hlE : E < w.heap.size := blk_lt h.e
 by_cases q : m ≤ c
 ·have d1 : decide ((c : Int) ≥ (m : Int)) = true := decide_eq_true (by omega)
  have d2 : decide (m ≤ c) = true := decide_eq_true q
  have hI2 : ∃ I, a = some ⟨I, 0, none⟩ ∧ Ix w lo I c V := by
   rcases hI with ⟨_, q2, _⟩ | q2
   ·omega
   ·exact q2
  obtain ⟨I, rfl, hI2⟩ := hI2
  have RES := Aside0.mk (show Exp w w lo E T H M es n S ds raw (some ⟨I, 0, none⟩) V m from ⟨I, c, .inl rfl, h, hI2, q, hc, Kept.refl _ _, Below.refl _ _⟩)
  clear h hI hI2 hm hm2 hc q hlE
  go_enter Tryz.func31, Tryz.ntmps31
  go_wp2
  refine bodyPost_ret (results_none rfl _ _ _) rfl ?_
  exact ⟨rfl, RES.out⟩
 ·have d1 : decide ((c : Int) ≥ (m : Int)) = false := decide_eq_false (by omega)
  have d2 : decide (m ≤ c) = false := decide_eq_false q
  have hp2 : (2 : Nat) ^ Lib.bitLen m ≤ 2 ^ 24 := Nat.pow_le_pow_right (by omega) (Lib.bitLen_le m 24 (by decide) (by omega))
  have hp1 := bitLen_lt m (by omega)
  have HPW := Aside0.mk (pow2e_calls m w (by omega))
  generalize (2 : Nat) ^ Lib.bitLen m = N at hp1 hp2 HPW
  have hmk := make_i V.length N (by omega) (by omega)
  have i1 := blk_new w (i32O N)
  have k1 : Kept w (w.alloc (i32O N)) (fun k => k = E) := (Kept.refl w _).alloc _
  have b1 : Below lo w (w.alloc (i32O N)) := (below_alloc (Below.refl _ _) _).mono (Nat.le_of_lt (Nat.lt_of_le_of_lt h.le hlE))
  have e1 := blk_alloc h.e (i32O N)
  have hcp : ∃ w3, (Builtin.copy_ #[52, 52] 3 #[.slice (some ⟨w.heap.size, 0, none⟩) V.length N, .slice a V.length c]).run Tryz.prog (w.alloc (i32O N)) = .ok (.int .i64 (V.length : Int)) w3 ∧
    (∃ cs : Array Value, w3.heap[w.heap.size]? = some (.cells cs 21 (0, 0)) ∧ cs.toList.take V.length = V.map (fun x => Value.int .i32 ((x : Nat) : Int)) ∧ cs.size = N) ∧ (∀ k, k ≠ w.heap.size → w3.heap[k]? = (w.alloc (i32O N)).heap[k]?) ∧ w3.heap.size = (w.alloc (i32O N)).heap.size ∧ Below w.heap.size (w.alloc (i32O N)) w3 := by
   rcases hI with ⟨rfl, rfl, rfl⟩ | ⟨I, rfl, hI⟩
   ·have hr := run_copy_nil (P := Tryz.prog) (w.alloc (i32O N)) 52 52 3 21 ⟨w.heap.size, 0, none⟩ 0 N Tryz.underlying52 (by kernel_rfl)
    exact ⟨_, hr, ⟨_, i1, by simp, by simp⟩, fun _ _ => rfl, rfl, Below.refl _ _⟩
   ·have hr := run_copy_row (P := Tryz.prog) (w.alloc (i32O N)) 52 52 3 21 w.heap.size 0 V.length N ⟨I, 0, none⟩ V.length c (List.replicate N (Value.int .i32 0)).toArray 21 (V.map (fun x => Value.int .i32 ((x : Nat) : Int))) Tryz.underlying52 (by kernel_rfl) i1 (by simp)
     (fun j v hv => by
      have hj : j < V.length := by
       have := (List.getElem?_eq_some_iff.1 hv).1
       simpa using this
      have e : (⟨I, 0, none⟩ : Addr).add j = ⟨I, j, none⟩ := by simp [Addr.add]; omega
      obtain ⟨cs, hr, ht, hs⟩ := hI.r
      have hI2 : Ix (w.alloc (i32O N)) lo I c V := ⟨⟨cs, blk_alloc hr _, ht, hs⟩, hI.le, hI.lo⟩
      rw [e, hI2.at j hj]
      simp [hj] at hv
      rw [← hv]
      simp [List.getD_eq_getElem?_getD, hj]) (by simp; omega) (by simp [Value.oneCell'])
    have hrow := setRow_heap (w.alloc (i32O N)) w.heap.size _ ((List.replicate N (Value.int .i32 0)).take 0 ++ V.map (fun x => Value.int .i32 ((x : Nat) : Int)) ++ (List.replicate N (Value.int .i32 0)).drop (0 + (V.map (fun x => Value.int .i32 ((x : Nat) : Int))).length)).toArray 21 _ i1
    refine ⟨_, by simpa [goInt] using hr, ⟨_, by simpa using hrow, ?_, ?_⟩, fun k hk => setRow_other _ _ k _ hk, by simp, below_setRow (Below.refl _ _) (Nat.le_refl _) _⟩
    ·simp
    ·simp; omega
  obtain ⟨w3, hcp, hrow, hoth, hsz, hbl⟩ := hcp
  have e3 : w3.heap[E]? = some (.cells (encL S T ds (.slice a V.length c) raw) 67 (0, 0)) := (hoth E (by omega)).trans e1
  have k3 : Kept w w3 (fun k => k = E) := ⟨by rw [hsz]; simp, fun g hg hn => (hoth g (by omega)).trans (k1.2 g hg hn)⟩
  have b3 : Below lo w w3 := b1.trans (hbl.mono (Nat.le_of_lt (Nat.lt_of_le_of_lt h.le hlE)))
  have d3 := h.keptE e3 k3
  have z3 := blk_frozen e3 4
  have c3 : w3.cell? ⟨E, 4, none⟩ = some (.slice a V.length c) := (blk_cell e3 4).trans rfl
  have d4 := d3.set 4 (.slice (some ⟨w.heap.size, 0, none⟩) V.length N) rfl
  obtain ⟨cs, r1, r2, r3⟩ := hrow
  have RES := Aside0.mk (show Exp w (w3.setCell ⟨E, 4, none⟩ (.slice (some ⟨w.heap.size, 0, none⟩) V.length N)) lo E T H M es n S ds raw a V m from
   ⟨w.heap.size, N, .inr (Nat.le_refl _), d4, ⟨⟨cs, blk_far r1 (p := ⟨E, 4, none⟩) (by show w.heap.size ≠ E; omega) _, r2, r3⟩, by omega, Nat.le_of_lt (Nat.lt_of_le_of_lt h.le hlE)⟩, by omega, by omega, k3.setCell (p := ⟨E, 4, none⟩) (.inl rfl) _, Below.setCell (p := ⟨E, 4, none⟩) b3 h.le _⟩)
  have c41 : (w.alloc (i32O N)).cell? ⟨E, 4, none⟩ = some (.slice a V.length c) := (blk_cell e1 4).trans rfl
  have HCP := Aside0.mk hcp
  clear h hI hm hm2 hc q hp1 hp2 i1 k1 b1 e1 r1 r2 r3 hoth hsz hbl e3 k3 b3 d3 d4 hcp
  go_enter Tryz.func31, Tryz.ntmps31
  go_upto_region 3 with (first | (go_at_call 52; go_loud (with_reducible refine HPW.out.mono ?_; rintro e w1 ⟨rfl, hw1⟩; subst w1)))
  have hcp := HCP.out
  go_wp2
  go_end0
  exact ⟨rfl, RES.out⟩
end Go.Proofs.YtiieljnllgeoeaaGreat.Q
