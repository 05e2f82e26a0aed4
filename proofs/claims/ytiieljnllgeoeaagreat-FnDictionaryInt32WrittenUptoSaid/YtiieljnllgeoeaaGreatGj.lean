/- The encoder by a dictionary: its numbers written. -/
import Derived.Test.YtiieljnllgeoeaaGreatGi
namespace Go.Proofs.YtiieljnllgeoeaaGreat.Q
open Go.RowKit Go.Proofs.YtiieljnllgeoeaaGreatW.PrintWords Go.Proofs.YtiieljnllgeoeaaGreatW.PrintLast Go.Proofs.YtiieljnllgeoeaaGreatW.PrintMore
set_option linter.unusedVariables false
set_option linter.unusedSimpArgs false
/-- The numbers that are kept. -/
structure Ix (w : World) (lo I c : Nat) (V : List Nat) : Prop where
 r : ∃ cs : Array Value, w.heap[I]? = some (.cells cs 21 (0, 0)) ∧ cs.toList.take V.length = V.map (fun x => Value.int .i32 ((x : Nat) : Int)) ∧ cs.size = c
 le : V.length ≤ c
 lo : lo ≤ I
theorem Ix.at {w : World} {lo I c : Nat} {V : List Nat} (h : Ix w lo I c V) (j : Nat) (hj : j < V.length) : w.cell? ⟨I, j, none⟩ = some (.int .i32 ((V.getD j 0 : Nat) : Int)) := by
 obtain ⟨cs, hr, ht, hs⟩ := h.r
 rw [blk_cell hr j]
 have e : (cs.toList.take V.length)[j]? = (V.map (fun x => Value.int .i32 ((x : Nat) : Int)))[j]? := by rw [ht]
 rw [List.getElem?_take_of_lt hj] at e
 rw [← Array.getElem?_toList, e]
 simp [List.getD_eq_getElem?_getD, hj]
theorem ok_fold {wd : Nat} (hw : 1 ≤ wd) (V : List Nat) : ∀ j, j ≤ V.length → (∀ v ∈ V, v < 2 ^ wd) → V.length < 900000 → Ok wd ((V.take j).foldl (RE.put wd) RE.new) (V.take j) := by
 intro j
 induction j with
 | zero => intro _ _ _; simpa using ok_new wd
 | succ j ih =>
  intro hj hv hn
  have h1 := ih (by omega) hv hn
  have hm : V.getD j 0 ∈ V := by
   rw [List.getD_eq_getElem?_getD, List.getElem?_eq_getElem (by omega)]
   exact List.getElem_mem _
  rw [take_snoc j (by omega), List.foldl_append]
  exact ok_put hw h1 _ (hv _ hm) (by simp; omega)
theorem fold_snoc {wd : Nat} (V : List Nat) (j : Nat) (hj : j < V.length) : (V.take (j + 1)).foldl (RE.put wd) RE.new = ((V.take j).foldl (RE.put wd) RE.new).put wd (V.getD j 0) := by
 rw [take_snoc j hj, List.foldl_append]
 rfl
/-- The numbers' runs. -/
def enc (wd : Nat) (V : List Nat) : List Int := ((V.foldl (RE.put wd) RE.new).done wd).dn
/-- What stays when the numbers are written. -/
structure FrD (lo : Nat) (w w' : World) : Prop where
 below : Below lo w w'
 keep : ∀ (g : Nat) (t : TypeId) (cs : Array Value), w.heap[g]? = some (.cells cs t (0, 0)) → t ≠ 197 → t ≠ 5 → t ≠ 181 → t ≠ 26 → t ≠ 67 → w'.heap[g]? = some (.cells cs t (0, 0))
theorem FrD.trans {lo : Nat} {w w1 w2 : World} (h : FrD lo w w1) (k : FrD lo w1 w2) : FrD lo w w2 := ⟨h.below.trans k.below, fun g t cs e a d f i j => k.keep g t cs (h.keep g t cs e a d f i j) a d f i j⟩
theorem FrE.d {lo : Nat} {w w1 : World} (h : FrE lo w w1) : FrD lo w w1 := ⟨h.below, fun g t cs e a d f i _ => h.keep g t cs e a d f i⟩
theorem FrE.low {lo w w1} {lo2 : Nat} (h : Below lo2 w w1) (hs : lo ≤ lo2) (hw : lo2 = w.heap.size) : FrE lo w w1 := ⟨h.mono hs, fun g t cs e _ _ _ _ => (h.block g (by have := blk_lt e; omega)).trans e⟩
theorem Dc.fr {lo2 : Nat} {w w' : World} {lo E T H M : Nat} {es : List Ent} {n S : Nat} {ds : Int} {iv : Value} {raw : Int} (h : Dc w lo E T H M es n S ds iv raw) (f : FrE lo2 w w') : Dc w' lo E T H M es n S ds iv raw :=
 ⟨f.keep E 67 _ h.e (by decide) (by decide) (by decide) (by decide), h.le, ⟨f.keep T 122 _ h.mm.t (by decide) (by decide) (by decide) (by decide), h.mm.lt, ⟨f.keep H 150 _ h.mm.tab.h (by decide) (by decide) (by decide) (by decide), f.keep M 247 _ h.mm.tab.m (by decide) (by decide) (by decide) (by decide), h.mm.tab.lh, h.mm.tab.lm⟩⟩⟩
theorem Ix.fr {lo2 : Nat} {w w' : World} {lo I c : Nat} {V : List Nat} (h : Ix w lo I c V) (f : FrE lo2 w w') : Ix w' lo I c V := by
 obtain ⟨cs, hr, ht, hs⟩ := h.r
 exact ⟨⟨cs, f.keep I 21 _ hr (by decide) (by decide) (by decide) (by decide), ht, hs⟩, h.le, h.lo⟩
theorem FrE.mono {lo lo2 : Nat} {w w' : World} (h : FrE lo2 w w') (k : lo ≤ lo2) : FrE lo w w' := ⟨h.below.mono k, h.keep⟩
/-- A byte written ahead of the stream. -/
theorem head_set {w : World} {X m : Nat} {lo : Nat} (h : Row w X (List.replicate (m + 1) 0)) (hl : lo ≤ X) (v : Nat) : Row (w.setCell ⟨X, 0, none⟩ (.int .u8 (v : Int))) X ((v : Int) :: List.replicate m 0) ∧ FrE lo w (w.setCell ⟨X, 0, none⟩ (.int .u8 (v : Int))) := by
 refine ⟨(blk_set h 0 _).trans (by simp [List.replicate_succ]), Below.setCell (p := ⟨X, 0, none⟩) (Below.refl _ _) hl _, fun g t cs e _ a _ _ => blk_far e (p := ⟨X, 0, none⟩) (blk_ne e h a) _⟩
set_option maxRecDepth 100000 in
theorem slice_i0 (g n cap : Nat) (W : World) : (Instr.sliceAt 52 (.slice (some ⟨g, 0, none⟩) n cap) none (some (.int .i64 0)) none).run Tryz.prog W = .ok (.slice (some ⟨g, 0, none⟩) 0 cap) W := by
 rw [run_sliceAt_slice W 52 _ _ _ _ Tryz.underlying52, run_slice_h W 52 (some ⟨g, 0, none⟩) n cap Tryz.underlying52 .i64 0 (by omega) (by omega)]
 have hsz : (sizeOf (Tryz.prog.elem 52)).run Tryz.prog W = .ok 1 W := by kernel_rfl
 rw [hsz]
 simp [Result.andThen, sliced, Addr.add]
/-- A store into the encoder. -/
theorem Dc.set {w : World} {lo E T H M : Nat} {es : List Ent} {n S : Nat} {ds ds' : Int} {iv iv' : Value} {raw raw' : Int} (h : Dc w lo E T H M es n S ds iv raw) (j : Nat) (v : Value) (hv : (encL S T ds iv raw).set! j v = encL S T ds' iv' raw') : Dc (w.setCell ⟨E, j, none⟩ v) lo E T H M es n S ds' iv' raw' := by
 obtain ⟨he, l, ⟨ht, lt, ⟨hh, hm, l1, l2⟩⟩⟩ := h
 exact ⟨(blk_set he j v).trans (by rw [← hv]; simp), l, ⟨blk_far ht (p := ⟨E, j, none⟩) (blk_ne ht he (by decide)) v, lt, ⟨blk_far hh (p := ⟨E, j, none⟩) (blk_ne hh he (by decide)) v, blk_far hm (p := ⟨E, j, none⟩) (blk_ne hm he (by decide)) v, l1, l2⟩⟩⟩
theorem Dc.setF {w : World} {lo E T H M : Nat} {es : List Ent} {n S : Nat} {ds : Int} {iv : Value} {raw : Int} (h : Dc w lo E T H M es n S ds iv raw) (j : Nat) (v : Value) : FrD lo w (w.setCell ⟨E, j, none⟩ v) :=
 ⟨Below.setCell (p := ⟨E, j, none⟩) (Below.refl _ _) h.le _, fun g t cs e _ _ _ _ a => blk_far e (p := ⟨E, j, none⟩) (blk_ne e h.e a) v⟩
theorem Dc.setRow {w : World} {lo E T H M : Nat} {es : List Ent} {n S : Nat} {ds : Int} {iv : Value} {raw : Int} (h : Dc w lo E T H M es n S ds iv raw) {X : Nat} {l : List Int} (hr : Row w X l) (j : Nat) (v : Value) : Row (w.setCell ⟨E, j, none⟩ v) X l := blk_far hr (p := ⟨E, j, none⟩) (blk_ne hr h.e (by decide)) v
set_option maxHeartbeats 4000000 in
set_option maxRecDepth 100000 in
theorem windex_calls {w : World} {lo E T H M : Nat} {es : List Ent} {n S : Nat} {ds : Int} {I c : Nat} {raw : Int} {V : List Nat} {X m : Nat} (h : Dc w lo E T H M es n S ds (.slice (some ⟨I, 0, none⟩) V.length c) raw) (hI : Ix w lo I c V) (h0 : 0 < n) (hn : n ≤ 1000) (hV : ∀ v ∈ V, v < n) (hl : V.length ≤ 1000)
  (hX : Row w X (List.replicate (m + 1) 0)) (hm : est (wdof n) V.length ≤ m + 1) (hm2 : m ≤ 1000000) (lo2 : Nat) (h12 : lo ≤ lo2) (hl2 : lo2 ≤ w.heap.size) (hlX : lo2 ≤ X) :
  Calls Tryz.prog 39 #[.pointer (some ⟨E, 0, none⟩), .slice (some ⟨X, 0, none⟩) (m + 1) (m + 1)] w fun e w' => ∃ dn z, e = .returned (.tuple #[.int .i64 ((dn.length + 1 : Nat) : Int), .nilIface]) ∧ (dn = enc (wdof n) V ∧ Runs (wdof n) dn (V ++ List.replicate z 0)) ∧ dn.length ≤ m ∧
   Row w' X (((wdof n : Nat) : Int) :: (dn ++ List.replicate (m - dn.length) 0)) ∧ Dc w' lo E T H M es n S ds (.slice (some ⟨I, 0, none⟩) 0 c) 0 ∧ FrD lo w w' ∧ ∀ g, g < lo2 → g ≠ E → w'.heap[g]? = w.heap[g]? := by
 obtain ⟨hw1, hw2, hw3⟩ := wdof_b n h0 hn
 obtain ⟨he1, he2, he3⟩ := est_b (wdof n) V.length hw2 hl
 have hV2 : ∀ v ∈ V, v < 2 ^ wdof n := fun v hv => Nat.lt_of_lt_of_le (hV v hv) hw3
 have hS8 : (1 + wdof n) * (V.length + 9) ≤ 8 * m := by omega
 have HB := Aside0.mk (fun W (hd : Dc W lo E T H M es n S ds (.slice (some ⟨I, 0, none⟩) V.length c) raw) => bwid_calls hd h0 hn)
 have hcv : IntKind.u8.wrap ((wdof n : Nat) : Int) = ((wdof n : Nat) : Int) := by simp [IntKind.wrap, IntKind.bits, IntKind.signed]; omega
 have hsl := sliceAt_b X 1 (m + 1) (by omega) (by omega)
 have hz : ¬ (m + 1 - 1 = 0) := by omega
 rw [if_neg hz, show m + 1 - 1 = m by omega] at hsl
 have hsl : ∀ W, (Instr.sliceAt 23 (.slice (some ⟨X, 0, none⟩) (m + 1) (m + 1)) (some (.int .i64 1)) none none).run Tryz.prog W = .ok (.slice (some ⟨X, 1, none⟩) m m) W := hsl
 have hx0 : w.cell? ⟨X, 0, none⟩ = some (.int .u8 0) := (blk_cell hX 0).trans (by simp)
 have hz0 := blk_frozen hX 0
 have HD := Aside0.mk h
 have HL := Aside0.mk (And.intro h12 hl2)
 have HI := Aside0.mk hI
 have HX := Aside0.mk hX
 have HV := Aside0.mk hV2
 have HS := Aside0.mk (And.intro hS8 (And.intro hm2 (And.intro hlX (And.intro hl (And.intro hw1 hw2)))))
 have q2 : (0 : Int) < ((m + 1 : Nat) : Int) := by omega
 clear h12 hl2 h hI hX hV hV2 hS8 hm hm2 hlX hl hw3 he1 he2 he3 hz h0 hn hw1 hw2
 generalize wdof n = wd at HB hcv HV HS ⊢
 go_enter Tryz.func39, Tryz.ntmps39
 go_upto_region 2 with (first | (go_at_call 58; with_reducible refine (HB.out _ HD.out).mono ?_; rintro e w1 ⟨rfl, k, rfl⟩))
 obtain ⟨x1, f1⟩ := head_set (w := w.drewN k) HX.out HS.out.2.2.1 wd
 have d1 := (HD.out.drewN k).fr f1
 have i1 : Ix ((w.drewN k).setCell ⟨X, 0, none⟩ (.int .u8 (wd : Int))) lo I c V := Ix.fr (w := w.drewN k) ⟨HI.out.r, HI.out.le, HI.out.lo⟩ f1
 have f1' := FrE.drewN k f1
 clear hx0 hz0 f1
 generalize (w.drewN k).setCell ⟨X, 0, none⟩ (.int .u8 (wd : Int)) = w1 at x1 d1 i1 f1' ⊢
 have HW1 := Aside0.mk (newwab_calls X m w1)
 have fa : FrE lo2 w1 (w1.alloc (.cells #[.slice (some ⟨X, 1, none⟩) m m] 184)) := FrE.alloc (Nat.le_trans HL.out.2 f1'.below.size) _
 have hB2 := blk_new w1 (.cells #[.slice (some ⟨X, 1, none⟩) m m] 184)
 have d2 := d1.fr fa
 have i2 := i1.fr fa
 have x2 := blk_alloc x1 (.cells #[.slice (some ⟨X, 1, none⟩) m m] 184)
 have hlo : lo2 ≤ w1.heap.size := Nat.le_trans HL.out.2 f1'.below.size
 have D2 := Aside0.mk (And.intro d2 (And.intro i2 (And.intro (f1'.trans fa) (And.intro hB2 (And.intro x2 hlo)))))
 clear fa hB2 d2 i2 x2 x1 d1 i1 f1' hlo
 obtain ⟨w2, hw2⟩ : ∃ w2, w2 = w1.alloc (.cells #[.slice (some ⟨X, 1, none⟩) m m] 184) := ⟨_, rfl⟩
 rw [← hw2] at HW1 D2
 have HB2 := Aside0.mk (HB.out w2 D2.out.1)
 have HR := Aside0.mk (fun k2 => newrle_calls w1.heap.size X m lo2 wd (wd : Int) (w2.drewN k2) D2.out.2.2.2.1 D2.out.2.2.2.2.1 D2.out.2.2.2.2.2 HS.out.2.2.1 (by have := HS.out.2.1; omega))
 clear hw2 HB
 go_upto_region 3 with (first | (go_at_call 61; go_loud (with_reducible refine HW1.out.mono ?_; rintro e w3 ⟨rfl, hw3⟩; subst w3)) | (go_at_call 58; go_loud (with_reducible refine HB2.out.mono ?_; rintro e w4 ⟨rfl, k2, rfl⟩)) | (go_at_call 60; go_loud (with_reducible refine (HR.out _).mono ?_; rintro e w5 ⟨R, W, Q, rfl, rl, fb⟩; have RL := Aside0.mk rl; have FB := Aside0.mk fb; clear rl fb)))
 have f5 := FrE.low FB.out (show lo2 ≤ w2.heap.size from Nat.le_trans HL.out.2 D2.out.2.2.1.below.size) rfl
 have d5 := (D2.out.1.drewN k2).fr f5
 have i5 : Ix w5 lo I c V := Ix.fr (w := w2.drewN k2) ⟨D2.out.2.1.r, D2.out.2.1.le, D2.out.2.1.lo⟩ f5
 have f6 := D2.out.2.2.1.trans (FrE.drewN k2 f5)
 have D5 := Aside0.mk (And.intro d5 (And.intro i5 f6))
 have r4 : w5.cell? ⟨E, 4, none⟩ = some (.slice (some ⟨I, 0, none⟩) V.length c) := (blk_cell d5.e 4).trans rfl
 clear d5 i5 f6 f5 FB HR HB2 HW1 hsl hcv q2 D2 HX HD HI
 go_wp2
 clear r4
 go_loopg [4, 27] (V.length + 1) (fun kq v4 v27 w' => ∃ j : Nat, v27 = .int .i64 (j : Int) ∧ Aside0 (j + kq = V.length + 1) ∧ Aside0 (j ≤ V.length) ∧ Aside0 (Rl w' lo2 R W Q wd ⟨w1.heap.size, X, m, (wd : Int)⟩ ((V.take j).foldl (RE.put wd) RE.new)) ∧ Aside0 (FrE lo2 w5 w'))
 case atStart => exact ⟨0, rfl, ⟨by omega⟩, ⟨by omega⟩, RL, ⟨FrE.refl _ _⟩⟩
 case round =>
  obtain ⟨j, rfl, HK, HJ, HRL, HF⟩ := hrel
  cases gk with
  | zero => exact absurd HK.out (by have := HJ.out; omega)
  | succ k1 =>
   by_cases cj : j < V.length
   ·have c2 : decide ((j : Int) < (V.length : Int)) = true := decide_eq_true (by omega)
    have q1 : (0 : Int) ≤ (j : Int) := by omega
    have q2 : (j : Int) < (V.length : Int) := by omega
    have hI := (D5.out.2.1.fr HF.out).at j cj
    have hbl := HS.out.2.2.2.1
    have hv : V.getD j 0 < 2 ^ wd := HV.out _ (by
     rw [List.getD_eq_getElem?_getD, List.getElem?_eq_getElem cj]
     exact List.getElem_mem _)
    have hv2 : V.getD j 0 < 1000000 := by
     have : (2 : Nat) ^ wd ≤ 2 ^ 10 := Nat.pow_le_pow_right (by omega) HS.out.2.2.2.2.2
     omega
    have hp := put_calls HRL.out (ok_fold HS.out.2.2.2.2.1 V j (by omega) HV.out (by omega)) ⟨HS.out.2.2.2.2.1, by have := HS.out.2.2.2.2.2; omega⟩ hv (by simp; omega) (by
     refine Nat.le_trans (Nat.mul_le_mul_left _ ?_) HS.out.1
     simp; omega)
    rw [← fold_snoc V j cj] at hp
    generalize V.getD j 0 = v at hI hp hv2
    have HP := Aside0.mk hp
    have hw : IntKind.i64.wrap ((j : Int) + 1) = ((j + 1 : Nat) : Int) := by rw [IntKind.wrap_i64]; omega
    have hcu : IntKind.u64.wrap (v : Int) = (v : Int) := by simp [IntKind.wrap, IntKind.bits, IntKind.signed]; omega
    clear hp hv hv2 hbl cj
    go_wp2_with (first | (go_at_call 62; with_reducible refine HP.out.mono ?_; rintro e w7 ⟨rfl, rl, fe⟩; have RL7 := Aside0.mk rl; have FE7 := Aside0.mk fe; clear rl fe))
    go_roundg k1
    case measure => have := HK.out; omega
    case rel => exact ⟨j + 1, by simp, ⟨by have := HK.out; omega⟩, ⟨by omega⟩, RL7, ⟨HF.out.trans FE7.out⟩⟩
   ·have c2 : decide ((j : Int) < (V.length : Int)) = false := decide_eq_false (by omega)
    have hj : j = V.length := by have := HJ.out; omega
    subst hj
    rw [List.take_length] at HRL
    have hok := ok_fold (wd := wd) HS.out.2.2.2.2.1 V V.length (Nat.le_refl _) HV.out (by have := HS.out.2.2.2.1; omega)
    rw [List.take_length] at hok
    have hfin := fin_is (S := ⟨w1.heap.size, X, m, (wd : Int)⟩) HS.out.2.2.2.2.1 hok (by have := HS.out.2.2.2.1; omega) (Nat.le_trans (Nat.mul_le_mul_left _ (by omega)) HS.out.1)
    obtain ⟨z, hz1, hz2⟩ := ok_done HS.out.2.2.2.2.1 hok (by have := HS.out.2.2.2.1; omega)
    have hroom := hfin.room
    have HFL := Aside0.mk (rflush_calls HRL.out hfin ⟨HS.out.2.2.2.2.1, by have := HS.out.2.2.2.2.2; omega⟩)
    have hed : ((V.foldl (RE.put wd) RE.new).done wd).dn = enc wd V := rfl
    generalize (V.foldl (RE.put wd) RE.new).done wd = ed at HFL hz1 hz2 hroom hed
    have HZ := Aside0.mk (And.intro (And.intro hed hz1) hroom)
    clear hed
    have hdl : ed.dn.length < 2000000 := Nat.lt_of_le_of_lt hroom (by have := HS.out.2.1; show m < 2000000; omega)
    have hwn : IntKind.i64.wrap ((ed.dn.length : Int) + 1) = ((ed.dn.length + 1 : Nat) : Int) := by rw [IntKind.wrap_i64]; omega
    clear cj HK HJ hok hfin hz1 hz2 hroom hdl
    have hs0 := slice_i0 I V.length c
    go_wp2_with (first | (go_at_call 63; go_loud (with_reducible refine HFL.out.mono ?_; rintro e w8 ⟨rfl, row8, fe⟩; have d8 := (D5.out.1.fr HF.out).fr fe; have y4 : w8.cell? ⟨E, 4, none⟩ = some (.slice (some ⟨I, 0, none⟩) V.length c) := (blk_cell d8.e 4).trans rfl; have v4 := blk_frozen d8.e 4; have d9 := d8.set 4 (.slice (some ⟨I, 0, none⟩) 0 c) rfl; have y9 : (w8.setCell ⟨E, 4, none⟩ (.slice (some ⟨I, 0, none⟩) 0 c)).cell? ⟨E, 9, none⟩ = some (.int .i64 raw) := (blk_cell d9.e 9).trans rfl; have v9 := blk_frozen d9.e 9; have D8 := Aside0.mk (And.intro d8 (And.intro d9 (And.intro row8 fe))); clear d8 d9 row8 fe)))
    go_ret2
    obtain ⟨d8, d9, row8, fe⟩ := D8.out
    exact ⟨ed.dn, z, rfl, HZ.out.1, HZ.out.2, d9.setRow (d8.setRow row8 4 _) 9 _, d9.set 9 (.int .i64 0) rfl, ((((D5.out.2.2.trans HF.out).trans fe).mono HL.out.1).d.trans (d8.setF 4 _)).trans (d9.setF 9 _), fun g hg hne => (Below.heap_setCell _ ⟨E, 9, none⟩ _ g hne).trans ((Below.heap_setCell _ ⟨E, 4, none⟩ _ g hne).trans (((D5.out.2.2.trans HF.out).trans fe).below.block g hg))⟩
end Go.Proofs.YtiieljnllgeoeaaGreat.Q
