/- A dictionary written out. -/
import Derived.Test.YtiieljnllgeoeaaGreatHX
namespace Go.Proofs.YtiieljnllgeoeaaGreat.Q
open Go.RowKit Go.Proofs.YtiieljnllgeoeaaGreatW.PrintWords Go.Proofs.YtiieljnllgeoeaaGreatW.PrintLast Go.Proofs.YtiieljnllgeoeaaGreatW.PrintMore
set_option linter.unusedVariables false
set_option linter.unusedSimpArgs false
def le4m (x : Int) : List Int := le4 (x % 4294967296)
theorem le4m_len (x : Int) : (le4m x).length = 4 := rfl
/-- The entries' places are there. -/
def FitO (es : List Ent) (m : Nat) : Prop := ∀ e ∈ es, e.h ≠ 0 → ∃ k : Nat, e.idx = (k : Int) ∧ 4 * k + 4 ≤ m
theorem wrs_len (es : List Ent) : ∀ (l : List Int), FitO es l.length → (wrs le4m es l).length = l.length := by
 induction es with
 | nil => intro l _; rfl
 | cons e es ih =>
  intro l hf
  have h1 : (wr1 l e le4m).length = l.length := wr1_len le4m_len l e (fun c => by
   obtain ⟨k, h1, h2⟩ := hf e List.mem_cons_self c
   rw [h1, Int.toNat_natCast]; exact h2)
  show (wrs le4m es (wr1 l e le4m)).length = _
  rw [ih _ (fun x hx c => by rw [h1]; exact hf x (List.mem_cons_of_mem _ hx) c), h1]
theorem wrs_snoc (es : List Ent) (l : List Int) (j : Nat) (hj : j < es.length) : wrs le4m (es.take (j + 1)) l = wr1 (wrs le4m (es.take j) l) (es.getD j e0) le4m := by
 unfold wrs
 rw [List.take_succ_eq_append_getElem hj, List.foldl_append, List.getD_eq_getElem?_getD, List.getElem?_eq_getElem hj]
 rfl
theorem OnlyX.refl (X : Nat) (w : World) : OnlyX X w w := ⟨Kept.refl _ _, Below.refl _ _⟩
theorem OnlyX.trans {X : Nat} {w w1 w2 : World} (h : OnlyX X w w1) (k : OnlyX X w1 w2) : OnlyX X w w2 := ⟨h.1.then_ k.1 (fun k hk => .inl hk), h.2.trans k.2⟩
theorem OnlyX.low {X : Nat} {w w1 : World} (h : X ≤ w.heap.size) (b : Below w.heap.size w w1) : OnlyX X w w1 := ⟨(Kept.refl w _).below b, b.mono h⟩
theorem OnlyX.blk {X : Nat} {w w1 : World} (h : OnlyX X w w1) {g : Nat} {o : Obj} (hg : w.heap[g]? = some o) (hn : g ≠ X) : w1.heap[g]? = some o := (h.1.2 g (blk_lt hg) hn).trans hg
set_option maxHeartbeats 4000000 in
set_option maxRecDepth 100000 in
theorem visits_calls {w : World} {lo H M n X p1 p2 : Nat} {es : List Ent} {l : List Int} (h : Tab w lo H M es n) (hX : Row w X l) (h1 : w.heap[p1]? = some (.cells #[.int .i64 0] 3)) (h2 : w.heap[p2]? = some (.cells #[.slice (some ⟨X, 0, none⟩) l.length l.length] 23)) (hf : FitO es l.length) (hm : l.length ≤ 16777216) (hL : es.length ≤ 1048576) :
  Calls Tryz.prog 158 #[.pointer (some ⟨H, 0, none⟩), .func (.func 159) #[] #[.pointer (some ⟨p1, 0, none⟩), .pointer (some ⟨p2, 0, none⟩)]] w fun e w' => e = .returned (.tuple #[]) ∧ Row w' X (wrs le4m es l) ∧ OnlyX X w w' := by
 have c3 : w.cell? ⟨H, 3, none⟩ = some (.slice (some ⟨M, 0, none⟩) es.length es.length) := (blk_cell h.h 3).trans rfl
 have nM : M ≠ X := blk_ne h.m hX (by decide)
 have n1 : p1 ≠ X := blk_ne h1 hX (by decide)
 have n2 : p2 ≠ X := blk_ne h2 hX (by decide)
 have HH := Aside0.mk (And.intro h (And.intro hX (And.intro h1 (And.intro h2 (And.intro hf (And.intro hm hL))))))
 have NN := Aside0.mk (And.intro nM (And.intro n1 n2))
 clear h hX h1 h2 hf hm hL nM n1 n2
 go_enter Tryz.func158, Tryz.ntmps158
 go_wp2
 go_loopg [11] (es.length + 1) (fun kq v11 w' => ∃ j : Nat, v11 = .int .i64 (j : Int) ∧ Aside0 (j + kq = es.length + 1 ∧ j ≤ es.length) ∧ Aside0 (Row w' X (wrs le4m (es.take j) l)) ∧ Aside0 (OnlyX X w w'))
 case atStart => exact ⟨0, rfl, ⟨by omega, by omega⟩, ⟨HH.out.2.1⟩, ⟨OnlyX.refl _ _⟩⟩
 case round =>
  obtain ⟨j, rfl, HJ, HR, HO⟩ := hrel
  obtain ⟨k1, rfl⟩ : ∃ k1, gk = k1 + 1 := ⟨gk - 1, by have := HJ.out; omega⟩
  by_cases c : j < es.length
  ·have d1 : decide ((j : Int) < (es.length : Int)) = true := decide_eq_true (by omega)
   have d2 : decide (j < es.length) = true := decide_eq_true c
   have q1 : (0 : Int) ≤ (j : Int) := by omega
   have q2 : (j : Int) < (es.length : Int) := by omega
   have hM : Ents wr M es := HO.out.blk HH.out.1.m NN.out.1
   obtain ⟨a0, a1, a2⟩ := hM.at j c
   have hmem := getD_mem c
   have hsn := wrs_snoc es l j c
   have hfit := HH.out.2.2.2.2.1 _ hmem
   have hlt : (wrs le4m (es.take j) l).length = l.length := wrs_len _ l (fun e he => HH.out.2.2.2.2.1 e (List.mem_of_mem_take he))
   have hw : IntKind.i64.wrap ((j : Int) + 1) = ((j + 1 : Nat) : Int) := by rw [IntKind.wrap_i64]; have := HH.out.2.2.2.2.2.2; omega
   generalize es.getD j e0 = en at a0 a1 a2 hsn hfit
   clear hmem c hM
   have HS := Aside0.mk (And.intro hsn (And.intro hfit hlt))
   clear hsn hfit hlt
   have t5 := blk_new wr (.cells #[.int .u64 (en.h : Int), .int .i32 en.val, .int .i32 en.idx] 247)
   have o3 := HO.out.trans (OnlyX.low (Nat.le_of_lt HR.out.lt) (below_alloc (Below.refl _ _) (.cells #[.int .u64 (en.h : Int), .int .i32 en.val, .int .i32 en.idx] 247)))
   have r3 := HR.out.alloc (.cells #[.int .u64 (en.h : Int), .int .i32 en.val, .int .i32 en.idx] 247)
   have nV : wr.heap.size ≠ X := by have := HR.out.lt; omega
   go_upto_region 3 with (fail)
   clear a0 a1 a2
   generalize wr.heap.size = V at t5 nV ⊢
   generalize wr.alloc (.cells #[.int .u64 (en.h : Int), .int .i32 en.val, .int .i32 en.idx] 247) = w3 at t5 o3 r3 ⊢
   have b0 : w3.cell? ⟨V, 0, none⟩ = some (.int .u64 (en.h : Int)) := (blk_cell t5 0).trans rfl
   have b1 : w3.cell? ⟨V, 1, none⟩ = some (.int .i32 en.val) := (blk_cell t5 1).trans rfl
   have b2 : w3.cell? ⟨V, 2, none⟩ = some (.int .i32 en.idx) := (blk_cell t5 2).trans rfl
   obtain ⟨bb, hbb⟩ : ∃ b, b = decide (en.h ≠ 0) := ⟨_, rfl⟩
   have HVA := Aside0.mk (valid_calls en w3)
   unfold entV at HVA
   rw [← hbb] at HVA
   have HBB := Aside0.mk hbb
   have TT := Aside0.mk (And.intro t5 (And.intro o3 (And.intro r3 nV)))
   clear t5 o3 r3 nV HO HR hbb
   go_upto_if 16 with (first | (go_at_call 156; go_loud (with_reducible refine HVA.out.mono ?_; rintro e w4 ⟨rfl, bv⟩; have BV := Aside0.mk bv; clear bv)))
   obtain ⟨t5, o3, r3, nV⟩ := TT.out
   have t5' := (BV.out.block V (blk_lt t5)).trans t5
   have r4 := r3.low BV.out
   have o4 := o3.trans (OnlyX.low (Nat.le_of_lt r3.lt) BV.out)
   clear b0 b1 b2 TT t5 r3 o3 HVA
   by_cases c0 : en.h = 0
   ·have hb : bb = false := HBB.out.trans (decide_eq_false (by simpa using c0))
    have hrow : wrs le4m (es.take (j + 1)) l = wrs le4m (es.take j) l := by rw [HS.out.1]; unfold wr1; rw [if_pos c0]
    rw [← hrow] at r4
    have RES := Aside0.mk (And.intro r4 o4)
    clear hrow r4 o4 c0 t5'
    subst hb
    go_wp2
    go_roundg k1
    case measure => have := HJ.out; omega
    case rel => exact ⟨j + 1, by simp, ⟨by have := HJ.out; omega, by omega⟩, ⟨RES.out.1⟩, ⟨RES.out.2⟩⟩
   ·have hb : bb = true := HBB.out.trans (decide_eq_true c0)
    obtain ⟨k, hk1, hk2⟩ := HS.out.2.1 c0
    have hrow : wrs le4m (es.take (j + 1)) l = (wrs le4m (es.take j) l).take (4 * k) ++ le4 (en.val % 4294967296) ++ (wrs le4m (es.take j) l).drop (4 * k + 4) := by
     rw [HS.out.1]; unfold wr1; rw [if_neg c0, hk1, Int.toNat_natCast]; rfl
    rw [hk1] at t5'
    have hlt := HS.out.2.2
    have hp2 := o4.blk HH.out.2.2.2.1 NN.out.2.2
    rw [← hlt] at hp2
    have HV := Aside0.mk (visit_calls X V p1 p2 k _ (en.h : Int) en.val w4 r4 (by rw [hlt]; exact hk2) (by rw [hlt]; exact HH.out.2.2.2.2.2.1) t5' (o4.blk HH.out.2.2.1 NN.out.2.1) hp2)
    rw [← hrow] at HV
    have O4 := Aside0.mk o4
    clear hrow hlt hp2 r4 o4 t5' hk1 hk2 c0
    subst hb
    go_wp2_with (first | (go_at_call 159; go_loud (with_reducible refine HV.out.mono ?_; rintro e w5 ⟨rfl, r5, o5⟩; have R5 := Aside0.mk (And.intro r5 o5); clear r5 o5)))
    go_roundg k1
    case measure => have := HJ.out; omega
    case rel => exact ⟨j + 1, by simp, ⟨by have := HJ.out; omega, by omega⟩, ⟨R5.out.1⟩, ⟨O4.out.trans R5.out.2⟩⟩
  ·have d1 : decide ((j : Int) < (es.length : Int)) = false := decide_eq_false (by omega)
   have d2 : decide (j < es.length) = false := decide_eq_false c
   have hj : j = es.length := by have := HJ.out; omega
   have hr := HR.out
   rw [hj, List.take_length] at hr
   have RES := Aside0.mk hr
   clear hr hj c
   go_wp2
   go_end0
   exact ⟨rfl, RES.out, HO.out⟩
set_option maxHeartbeats 4000000 in
set_option maxRecDepth 100000 in
theorem wsub_calls {w : World} {lo H M n X : Nat} {es : List Ent} {l : List Int} (h : Tab w lo H M es n) (hX : Row w X l) (hf : FitO es l.length) (hm : l.length ≤ 16777216) (hL : es.length ≤ 1048576) :
  Calls Tryz.prog 153 #[.pointer (some ⟨H, 0, none⟩), .int .i64 0, .slice (some ⟨X, 0, none⟩) l.length l.length] w fun e w' => e = .returned (.tuple #[]) ∧ Row w' X (wrs le4m es l) ∧ OnlyX X w w' := by
 have b1 : Below w.heap.size w ((w.alloc (.cells #[.int .i64 0] 3)).alloc (.cells #[.slice (some ⟨X, 0, none⟩) l.length l.length] 23)) := below_alloc (below_alloc (Below.refl _ _) _) _
 have HV := Aside0.mk (visits_calls (p1 := w.heap.size) (p2 := w.heap.size + 1) (h.low b1) (hX.low b1) (blk_alloc (blk_new w _) _) (blk_at _ _ _ (by simp)) hf hm hL)
 have HX := Aside0.mk (And.intro hX b1)
 clear h hX hf hm hL b1
 go_enter Tryz.func153, Tryz.ntmps153
 go_wp2_with (first | (go_at_call 158; go_loud (with_reducible refine HV.out.mono ?_; rintro e w1 ⟨rfl, r1, o1⟩; have R1 := Aside0.mk (And.intro r1 o1); clear r1 o1)))
 go_end0
 exact ⟨rfl, R1.out.1, (OnlyX.low (Nat.le_of_lt HX.out.1.lt) HX.out.2).trans R1.out.2⟩
set_option maxHeartbeats 4000000 in
set_option maxRecDepth 100000 in
theorem wout_calls {w : World} {lo H M n X : Nat} {es : List Ent} {l : List Int} (h : Tab w lo H M es n) (hX : Row w X l) (hf : FitO es l.length) (hm : l.length ≤ 16777216) (hL : es.length ≤ 1048576) :
  Calls Tryz.prog 144 #[.pointer (some ⟨H, 0, none⟩), .slice (some ⟨X, 0, none⟩) l.length l.length] w fun e w' => e = .returned (.tuple #[]) ∧ Row w' X (wrs le4m es l) ∧ OnlyX X w w' := by
 have HV := Aside0.mk (wsub_calls h hX hf hm hL)
 clear h hX hf hm hL
 go_enter Tryz.func144, Tryz.ntmps144
 go_wp2_with (first | (go_at_call 153; go_loud (with_reducible refine HV.out.mono ?_; rintro e w1 ⟨rfl, r1, o1⟩; have R1 := Aside0.mk (And.intro r1 o1); clear r1 o1)))
 go_end0
 exact ⟨rfl, R1.out.1, R1.out.2⟩
set_option maxHeartbeats 4000000 in
set_option maxRecDepth 100000 in
theorem wle_calls {w : World} {lo T H M n X : Nat} {es : List Ent} {l : List Int} (h : Mm w lo T H M es n) (hX : Row w X l) (hf : FitO es l.length) (hm : l.length ≤ 16777216) (hL : es.length ≤ 1048576) :
  Calls Tryz.prog 137 #[.pointer (some ⟨T, 0, none⟩), .slice (some ⟨X, 0, none⟩) l.length l.length] w fun e w' => e = .returned (.tuple #[]) ∧ Row w' X (wrs le4m es l) ∧ OnlyX X w w' := by
 have c0 : w.cell? ⟨T, 0, none⟩ = some (.pointer (some ⟨H, 0, none⟩)) := (blk_cell h.t 0).trans rfl
 have HV := Aside0.mk (wout_calls h.tab hX hf hm hL)
 clear h hX hf hm hL
 go_enter Tryz.func137, Tryz.ntmps137
 go_wp2_with (first | (go_at_call 144; go_loud (with_reducible refine HV.out.mono ?_; rintro e w1 ⟨rfl, r1, o1⟩; have R1 := Aside0.mk (And.intro r1 o1); clear r1 o1)))
 go_end0
 exact ⟨rfl, R1.out.1, R1.out.2⟩
set_option maxHeartbeats 4000000 in
set_option maxRecDepth 100000 in
theorem wdict_calls {w : World} {lo E T H M n S X : Nat} {ds : Int} {iv : Value} {raw : Int} {es : List Ent} {l : List Int} (h : Dc w lo E T H M es n S ds iv raw) (hX : Row w X l) (hf : FitO es l.length) (hm : l.length ≤ 16777216) (hL : es.length ≤ 1048576) :
  Calls Tryz.prog 18 #[.pointer (some ⟨E, 0, none⟩), .slice (some ⟨X, 0, none⟩) l.length l.length] w fun e w' => e = .returned (.tuple #[]) ∧ Row w' X (wrs le4m es l) ∧ OnlyX X w w' := by
 have c5 : w.cell? ⟨E, 5, none⟩ = some (.iface 86 (.pointer (some ⟨T, 0, none⟩))) := (blk_cell h.e 5).trans rfl
 have HV := Aside0.mk (wle_calls h.mm hX hf hm hL)
 have ha : ∀ W : World, (Instr.typeAssert (.iface 86 (.pointer (some ⟨T, 0, none⟩))) 61 97 false).run Tryz.prog W = .ok (.iface 86 (.pointer (some ⟨T, 0, none⟩))) W := fun W => by kernel_rfl
 clear h hX hf hm hL
 go_enter Tryz.func18, Tryz.ntmps18
 go_wp2_with (first | (go_at_call 137; go_loud (with_reducible refine HV.out.mono ?_; rintro e w1 ⟨rfl, r1, o1⟩; have R1 := Aside0.mk (And.intro r1 o1); clear r1 o1)))
 go_end0
 exact ⟨rfl, R1.out.1, R1.out.2⟩
set_option maxHeartbeats 1000000 in
set_option maxRecDepth 100000 in
theorem dsize_calls {w : World} {lo E T H M n S : Nat} {ds : Int} {iv : Value} {raw : Int} {es : List Ent} (h : Dc w lo E T H M es n S ds iv raw) :
  Calls Tryz.prog 17 #[.pointer (some ⟨E, 0, none⟩)] w fun e w' => e = .returned (.int .i64 ds) ∧ w' = w := by
 have c3 : w.cell? ⟨E, 3, none⟩ = some (.int .i64 ds) := (blk_cell h.e 3).trans rfl
 clear h
 go_enter Tryz.func17, Tryz.ntmps17
 go_wp2
 go_ret
 exact ⟨rfl, rfl⟩
end Go.Proofs.YtiieljnllgeoeaaGreat.Q
