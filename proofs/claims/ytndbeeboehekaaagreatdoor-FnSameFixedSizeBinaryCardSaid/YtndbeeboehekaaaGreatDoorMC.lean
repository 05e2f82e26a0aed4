/- Several texts of ours in one: Tf, Tg, Th, Ti, HS. -/
import Derived.Test.YtndbeeboehekaaaGreatDoorMB
import Derived.Lib.ConvBytes
import Derived.Defers
/- Data of a builder's values, sliced; an array over it. -/
namespace Go.Proofs.YtndbeeboehekaaaGreatDoor.Q
open Go.RowKit Go.Proofs.YtndbeeboehekaaaGreatDoorW.PrintWords Go.Proofs.YtndbeeboehekaaaGreatDoorW.PrintLast Go.Proofs.YtndbeeboehekaaaGreatDoorW.PrintMore
set_option linter.unusedVariables false
set_option linter.unusedSimpArgs false
theorem Inv.c3 {xs : List Ent} {nulls C m : Nat} {bm vl : List Int} (h : Inv xs nulls C m bm vl) : 3 * xs.length ≤ vl.length ∧ m ≤ bm.length ∧ xs.length ≤ 1000 := by
  have := h.len
  have := h.le
  refine ⟨by omega, by rw [h.bl]; omega, by omega⟩
theorem nsd_dv (B0 D : Nat) (es : List Ent) (i j : Nat) (hij : i ≤ j) (hj : j ≤ es.length) (w : World) (h : Dv w B0 D es 0 es.length 1 1) (hB : B0 ≤ w.heap.size) :
    Calls Tryz.prog 22 #[.iface 69 (ptr D), .int .i64 i, .int .i64 j] w fun e w' => ∃ D2, e = .returned (.iface 69 (ptr D2)) ∧ Dv w' B0 D2 es i (j - i : Nat) 1 2 ∧ Below B0 w w' := by
  rcases h with ⟨rfl, T, sb, VB, X, h⟩ | ⟨hne, T, sb, NB, NR, VB, VR, nulls, C, m, bm, vl, nl, h⟩
  · have hj0 : j = 0 := by simpa using hj
    subst hj0
    have hi0 : i = 0 := by omega
    subst hi0
    refine (nsd_none D T sb VB _ _ w h.hD h.hs h.hv).mono ?_
    rintro e w' ⟨D2, rfl, l1, d2, t⟩
    refine ⟨D2, rfl, .inl ⟨rfl, T, sb, VB, X, d2, blk_kept h.hT t.kept id, blk_kept h.hs t.kept id, blk_kept h.hv t.kept id, ?_⟩, t.below hB (fun k hk => hk.elim)⟩
    have := h.lo
    omega
  · have hc := h.inv.c3
    refine (nsd_full D T sb NB VB _ _ _ _ nl i j es.length hij hj hc.2.2 w h.hD h.hs h.hn.h h.hv.h h.ne).mono ?_
    rintro e w' ⟨D2, nl2, rfl, l1, d2, k1, k2, t⟩
    have hlo := h.lo
    have f1 : NR ≠ NB := fun e => h.hn.ne e.symm
    have f2 : NR ≠ VB := blk_ne h.hn.r h.hv.h (show (5 : Nat) ≠ 136 by decide)
    have f3 : VR ≠ VB := fun e => h.hv.ne e.symm
    have f4 : VR ≠ NB := blk_ne h.hv.r h.hn.h (show (5 : Nat) ≠ 136 by decide)
    have f5 : T ≠ NB := blk_ne h.hT h.hn.h (show (56 : Nat) ≠ 136 by decide)
    have f6 : T ≠ VB := blk_ne h.hT h.hv.h (show (56 : Nat) ≠ 136 by decide)
    have f7 : sb ≠ NB := blk_ne h.hs h.hn.h (show (83 : Nat) ≠ 136 by decide)
    have f8 : sb ≠ VB := blk_ne h.hs h.hv.h (show (83 : Nat) ≠ 136 by decide)
    refine ⟨D2, rfl, .inr ⟨hne, T, sb, NB, NR, VB, VR, nulls, C, m, bm, vl, nl2, d2, blk_kept h.hT t.kept (by rintro (e | e); exact f5 e; exact f6 e), blk_kept h.hs t.kept (by rintro (e | e); exact f7 e; exact f8 e), ⟨k1, h.hn.r.kept t.kept (by rintro (e | e); exact f1 e; exact f2 e)⟩, ⟨k2, h.hv.r.kept t.kept (by rintro (e | e); exact f4 e; exact f3 e)⟩, h.inv, h.ne, by omega⟩, t.below hB (by rintro k (e | e) <;> omega)⟩
/-- An array over a slice of a builder's values. -/
def Arr (w : World) (B0 A : Nat) (es : List Ent) (off len : Int) : Prop :=
  (es = [] ∧ ∃ D X T nl sb, w.heap[A]? = some (fsbO 1 (ptr D) (.slice none 0 0) (.slice (some ⟨X, 0, none⟩) 0 0)) ∧ w.heap[D]? = some (dataO 2 T nl off len sb)) ∨
  (es ≠ [] ∧ ∃ D T nl sb NR VR nulls C m bm vl, w.heap[A]? = some (fsbO 1 (ptr D) (.slice (some ⟨NR, 0, none⟩) m bm.length) (.slice (some ⟨VR, 0, none⟩) (3 * es.length) vl.length)) ∧ w.heap[D]? = some (dataO 2 T nl off len sb) ∧ Inv es nulls C m bm vl ∧ Row w NR bm ∧ Row w VR vl)
theorem nfd_dv (B0 D : Nat) (es : List Ent) (off len : Int) (w : World) (h : Dv w B0 D es off len 1 2) (hB : B0 ≤ w.heap.size) :
    Calls Tryz.prog 21 #[.iface 69 (ptr D)] w fun e w' => ∃ A, e = .returned (ptr A) ∧ Arr w' B0 A es off len ∧ Below B0 w w' := by
  rcases h with ⟨rfl, T, sb, VB, X, h⟩ | ⟨hne, T, sb, NB, NR, VB, VR, nulls, C, m, bm, vl, nl, h⟩
  · refine (nfd_calls D T sb VB (.pointer none) (.slice none 0 0) (some ⟨X, 0, none⟩) 0 0 0 1 2 0 off len (by decide) w h.hT h.hD h.hs (.inl ⟨rfl, rfl⟩) ((blk_cell h.hv 1).trans rfl) ((blk_cell h.hv 2).trans rfl) (Nat.le_refl _) (blk_ne h.hv h.hD (show (136 : Nat) ≠ 108 by decide))).mono ?_
    rintro e w' ⟨A, rfl, l1, a1, a2, t⟩
    have hlo := h.lo
    exact ⟨A, rfl, .inl ⟨rfl, D, X, T, 0, sb, a1, a2⟩, t.below hB (fun k hk => by omega)⟩
  · have hc := h.inv.c3
    refine (nfd_calls D T sb VB (ptr NB) (.slice (some ⟨NR, 0, none⟩) m bm.length) (some ⟨VR, 0, none⟩) (3 * es.length) vl.length vl.length 1 2 nl off len (by decide) w h.hT h.hD h.hs (.inr ⟨NB, NR, 2, m, bm, rfl, h.hn, hc.2.1, rfl⟩) ((blk_cell h.hv.h 1).trans rfl) ((blk_cell h.hv.h 2).trans rfl) hc.1 (blk_ne h.hv.h h.hD (show (136 : Nat) ≠ 108 by decide))).mono ?_
    rintro e w' ⟨A, rfl, l1, a1, a2, t⟩
    have hlo := h.lo
    exact ⟨A, rfl, .inr ⟨hne, D, T, nl, sb, NR, VR, nulls, C, m, bm, vl, a1, a2, h.inv, h.hn.r.kept t.kept (blk_ne h.hn.r h.hD (show (5 : Nat) ≠ 108 by decide)), h.hv.r.kept t.kept (blk_ne h.hv.r h.hD (show (5 : Nat) ≠ 108 by decide))⟩, t.below hB (fun k hk => by omega)⟩
end Go.Proofs.YtndbeeboehekaaaGreatDoor.Q

/- impl.sliceFixedSizeBinary. -/
namespace Go.Proofs.YtndbeeboehekaaaGreatDoor.Q
open Go.RowKit Go.Proofs.YtndbeeboehekaaaGreatDoorW.PrintWords Go.Proofs.YtndbeeboehekaaaGreatDoorW.PrintLast Go.Proofs.YtndbeeboehekaaaGreatDoorW.PrintMore
set_option linter.unusedVariables false
set_option linter.unusedSimpArgs false
/-- A value as a builder takes it. -/
def entOf (x : S25) : Ent := if x.f0 then (false, [0, 0, 0]) else (true, bytesOf x.f2)
theorem new_dat (W : World) (s : ByteArray) (h : s.size = 3) : Dat (Lib.bytesWorld W 5 s) W.heap.size (bytesOf s) := by
  have h1 := bytes_reads W 5 s (by omega)
  refine ⟨by rw [bytesOf_length]; exact h, fun j hj => ?_⟩
  rw [Lib.bytesWorld_cell W 5 s j (by omega)]
  have h' : j < s.data.toList.length := by rw [data_length]; omega
  simp [bytesOf, List.getD_eq_getElem?_getD, List.getElem?_eq_getElem h']
theorem newb_at (w : World) : Calls Tryz.prog 18 #[plainV, ptr w.heap.size] (w.alloc tyO) fun e w' => e = .returned (ptr (w.heap.size + 2)) ∧ Bd0 w' (w.heap.size + 2) (w.heap.size + 1) w.heap.size ∧ Below w.heap.size w w' := by
  refine (newb_calls w.heap.size (w.alloc tyO)).mono ?_
  rintro e w' ⟨rfl, rfl⟩
  have e1 : (w.alloc tyO).heap.size = w.heap.size + 1 := by simp
  have h1 := blk_new (w.alloc tyO) (bbO (.pointer none) 0 0 (.slice none 0 0))
  have h2 := blk_new ((w.alloc tyO).alloc (bbO (.pointer none) 0 0 (.slice none 0 0))) (bO (.pointer none) 0 0 0 w.heap.size (w.alloc tyO).heap.size)
  have e2 : ((w.alloc tyO).alloc (bbO (.pointer none) 0 0 (.slice none 0 0))).heap.size = w.heap.size + 2 := by simp
  rw [e2] at h2
  rw [e1] at h1 h2 ⊢
  exact ⟨rfl, ⟨h2, blk_alloc h1 _, blk_alloc (blk_alloc (blk_new w tyO) _) _⟩, below_alloc (below_alloc (below_alloc (Below.refl _ _) _) _) _⟩
theorem map_take_snoc (xs : List S25) (i : Nat) (x : S25) (h : xs[i]? = some x) : (xs.take (i + 1)).map entOf = (xs.take i).map entOf ++ [entOf x] := by
  rw [List.take_add_one, h]
  simp
theorem Bd.below {w w' : World} {b vb T NB NR VB VR nulls k c m : Nat} {bm vl : List Int} {q : Int} (h : Bd w b vb T NB NR VB VR nulls k c m bm vl q) (hb : Below w.heap.size w w') : Bd w' b vb T NB NR VB VR nulls k c m bm vl q := ⟨blk_below h.hb hb, blk_below h.hv hb, blk_below h.hT hb, h.hn.below hb, h.hw.below hb, h.n1, h.n2⟩
theorem Bd0.below {w w' : World} {b vb T : Nat} (h : Bd0 w b vb T) (hb : Below w.heap.size w w') : Bd0 w' b vb T := ⟨blk_below h.hb hb, blk_below h.hv hb, blk_below h.hT hb⟩
theorem St.below {w w' : World} {B0 U U2 b vb T : Nat} {xs : List Ent} (h : St w B0 U b vb T xs) (hb : Below w.heap.size w w') (hU : U ≤ U2) : St w' B0 U2 b vb T xs := by
  obtain ⟨h1, h2, h3⟩ := h
  refine ⟨h1, by omega, ?_⟩
  rcases h3 with ⟨e, h3⟩ | ⟨NB, NR, VB, VR, nulls, C, m, bm, vl, q, h4, h5⟩
  · exact .inl ⟨e, h3.below hb⟩
  · exact .inr ⟨NB, NR, VB, VR, nulls, C, m, bm, vl, q, ⟨h4.bd.below hb, h4.inv, h4.lo⟩, by omega⟩
theorem GlobB.below {w w' : World} {B : Nat} (h : GlobB w) (hb : Below B w w') (hB : 2 < B) : GlobB w' := fun r hr => by
  have e := hb.block 2 hB
  have := h r hr
  unfold World.cell? at this ⊢
  rw [e]
  exact this
set_option maxHeartbeats 2000000 in
set_option maxRecDepth 100000 in
theorem sl_calls (A0 : Option Addr) (c0 : Nat) (xs : List S25) (frm til : Nat) (w : World) (hr : Kd.C k25 w A0 xs.length xs) (hc : xs.length ≤ c0) (hG : GlobB w) (hl : xs.length ≤ 100) (hok : ∀ x ∈ xs, x.f0 = false → x.f2.size = 3) (hft : frm ≤ til) (hto : til ≤ xs.length) :
    Calls Tryz.prog 10 #[.slice A0 xs.length c0, .int .i64 frm, .int .i64 til] w fun e w' => ∃ A, e = .returned (ptr A) ∧ Arr w' w.heap.size A (xs.map entOf) frm (til - frm : Nat) ∧ Below w.heap.size w w' := by
  have HR := Aside0.mk hr
  have HX := Aside0.mk (And.intro hG (And.intro hl (And.intro hok (And.intro hft hto))))
  have HN := Aside0.mk (newb_at w)
  clear hr hc hG hok hft hto hl
  go_enter Tryz.func10, Tryz.ntmps10
  go_wp2_with (first | (go_at_call 18; refine HN.out.mono ?_; rintro e w1 ⟨rfl, n1, n2⟩; have W1 := Aside0.mk (And.intro n1 n2); clear n1 n2))
  go_loopg [17] (xs.length + 1) (fun kq v4 w' => ∃ (i : Nat), v4 = .int .i64 (i : Int) ∧ Aside0 (i + kq = xs.length + 1) ∧ Aside0 (i ≤ xs.length) ∧ Aside0 (St w' w.heap.size w'.heap.size (w.heap.size + 2) (w.heap.size + 1) w.heap.size ((xs.take i).map entOf)) ∧ Aside0 (Below w.heap.size w w') ∧ Aside0 (i = 0 → Bd0 w' (w.heap.size + 2) (w.heap.size + 1) w.heap.size))
  case atStart =>
    obtain ⟨n1, n2⟩ := W1.out
    refine ⟨0, rfl, ⟨by omega⟩, ⟨by omega⟩, ⟨⟨by omega, ?_, .inl ⟨rfl, n1⟩⟩⟩, ⟨n2⟩, ⟨fun _ => n1⟩⟩
    have h1 := blk_lt n1.hb
    omega
  case round =>
    clear HN W1
    obtain ⟨i, rfl, HK, HI, HS, HB, HZ⟩ := hrel
    cases gk with
    | zero => exact absurd HK.out (by have := HI.out; omega)
    | succ k1 =>
      by_cases c2 : i < xs.length
      · have c2b : decide ((i : Int) < (xs.length : Int)) = true := decide_eq_true (by omega)
        obtain ⟨ad, A3, c3, e1, x0, x1, x2, x3, x4, x5⟩ := at_T25 (Kd.C_below HR.out HB.out) (i : Int) (by omega) (by omega)
        have hx : xs[i]? = some (rd_T25 xs (i : Int)) := by unfold rd_T25; simp [List.getD_eq_getElem?_getD, List.getElem?_eq_getElem c2]
        generalize rd_T25 xs (i : Int) = x at x0 x1 x2 x3 x4 x5 hx
        subst e1
        have g0 : (0 : Int) ≤ (i : Int) := by omega
        have g1 : (i : Int) < (xs.length : Int) := by omega
        simp only [Int.toNat_natCast] at x0 x1 x2 x3
        have HWI := Aside0.mk (show wrap64 ((i : Int) + 1) = ((i + 1 : Nat) : Int) by have := HX.out.2.1; unfold wrap64; omega)
        have hli : ((xs.take i).map entOf).length < 100 := by have := HX.out.2.1; simp; omega
        have hxm : x ∈ xs := List.mem_of_getElem? hx
        have h2B : 2 < w.heap.size := HX.out.1.block
        have hwB := HB.out.size
        obtain ⟨cc, hcc⟩ : ∃ cc : Array Value, cc = #[Value.bool x.f0, Value.int IntKind.u64 x.f1, Value.string x.f2, Value.slice A3 x.f3.length c3] := ⟨_, rfl⟩
        have b1 : Below wr.heap.size wr (wr.alloc (.cells cc 25)) := below_alloc (Below.refl _ _) _
        have s1 : St (wr.alloc (.cells cc 25)) w.heap.size (wr.alloc (.cells cc 25)).heap.size (w.heap.size + 2) (w.heap.size + 1) w.heap.size ((xs.take i).map entOf) := HS.out.below b1 (by simp)
        by_cases hb : x.f0 = true
        · have hent : entOf x = (false, [0, 0, 0]) := by unfold entOf; rw [if_pos hb]
          have HC := Aside0.mk (null_st w.heap.size (wr.alloc (.cells cc 25)).heap.size (w.heap.size + 2) (w.heap.size + 1) w.heap.size ((xs.take i).map entOf) (wr.alloc (.cells cc 25)) (Nat.le_refl _) hli s1)
          subst hcc
          rw [hb] at x0 HC
          have HP := Aside0.mk (And.intro hx (And.intro hent hwB))
          clear hb b1 s1 hli hxm hent hx
          go_wp2_with (first | (go_at_call 19; refine HC.out.mono ?_; rintro e w3 ⟨rfl, r1, r2⟩; have R := Aside0.mk (And.intro r1 r2); clear r1 r2))
          obtain ⟨r1, r2⟩ := R.out
          obtain ⟨hx, hent, hwB⟩ := HP.out
          rw [← hent, ← map_take_snoc xs i x hx] at r1
          go_roundg k1
          case measure => have := HK.out; omega
          case rel => exact ⟨i + 1, (by first | rw [HWI.out] | rfl), ⟨by have := HK.out; omega⟩, ⟨by omega⟩, ⟨r1⟩, ⟨HB.out.trans (((below_alloc (Below.refl _ _) _).mono hwB).trans r2)⟩, ⟨fun h => by omega⟩⟩
        · have hb' : x.f0 = false := by simpa using hb
          have hent : entOf x = (true, bytesOf x.f2) := by unfold entOf; rw [if_neg hb]
          have hsz : x.f2.size = 3 := HX.out.2.2.1 x hxm hb'
          have hconv := print_bytes (P := Tryz.prog) 9 58 5 Tryz.underlying9 Tryz.underlying58 Tryz.underlying5 x.f2
          have hD : Dat (Lib.bytesWorld (wr.alloc (.cells cc 25)) 5 x.f2) (wr.heap.size + 1) (bytesOf x.f2) := by
            have := new_dat (wr.alloc (.cells cc 25)) x.f2 hsz
            rwa [show (wr.alloc (.cells cc 25)).heap.size = wr.heap.size + 1 by simp] at this
          have b2 : Below (wr.alloc (.cells cc 25)).heap.size (wr.alloc (.cells cc 25)) (Lib.bytesWorld (wr.alloc (.cells cc 25)) 5 x.f2) := bytes_below (Below.refl _ _) (Nat.le_refl _) 5 x.f2
          have s2 : St (Lib.bytesWorld (wr.alloc (.cells cc 25)) 5 x.f2) w.heap.size (wr.alloc (.cells cc 25)).heap.size (w.heap.size + 2) (w.heap.size + 1) w.heap.size ((xs.take i).map entOf) := s1.below b2 (Nat.le_refl _)
          have hGb : GlobB (Lib.bytesWorld (wr.alloc (.cells cc 25)) 5 x.f2) := ((HX.out.1.below HB.out h2B).below b1 (by omega)).below b2 (by simp; omega)
          have HC := Aside0.mk (fun cd => append_st w.heap.size (wr.alloc (.cells cc 25)).heap.size (w.heap.size + 2) (w.heap.size + 1) w.heap.size (wr.heap.size + 1) cd ((xs.take i).map entOf) (bytesOf x.f2) (Lib.bytesWorld (wr.alloc (.cells cc 25)) 5 x.f2) b2.size hli s2 hD (by simp) hGb h2B)
          have hB2 := Aside0.mk b2
          subst hcc
          rw [hb'] at x0
          rw [hb'] at HC hB2
          rw [hsz] at hconv
          have HP := Aside0.mk (And.intro hx (And.intro hent hwB))
          clear hb b1 s1 hli hxm hent hx hb' b2 s2 hGb hD
          go_wp2_with (first | (go_at_call 20; refine (HC.out _).mono ?_; rintro e w3 ⟨rfl, r1, r2⟩; have R := Aside0.mk (And.intro r1 r2); clear r1 r2))
          obtain ⟨r1, r2⟩ := R.out
          obtain ⟨hx, hent, hwB⟩ := HP.out
          rw [← hent, ← map_take_snoc xs i x hx] at r1
          go_roundg k1
          case measure => have := HK.out; omega
          case rel => exact ⟨i + 1, (by first | rw [HWI.out] | rfl), ⟨by have := HK.out; omega⟩, ⟨by omega⟩, ⟨r1⟩, ⟨HB.out.trans (((below_alloc (Below.refl _ _) _).mono hwB).trans ((hB2.out.mono (by simp; omega)).trans r2))⟩, ⟨fun h => by omega⟩⟩
      · have c2b : decide ((i : Int) < (xs.length : Int)) = false := decide_eq_false (by omega)
        have hi : i = xs.length := by have := HI.out; omega
        subst hi
        have hS := HS.out
        rw [List.take_length] at hS
        have hz : xs.map entOf = [] → Bd0 wr (w.heap.size + 2) (w.heap.size + 1) w.heap.size := fun h => HZ.out (by simpa using h)
        have HNA := Aside0.mk (na_calls w.heap.size wr.heap.size (w.heap.size + 2) (w.heap.size + 1) w.heap.size (xs.map entOf) wr (Nat.le_refl _) hS hz)
        clear c2 hS hz
        go_wp2_with (first | (go_at_call 23; refine HNA.out.mono ?_; rintro e w2 ⟨A, D, bs, vs, rfl, a1, a2, a3, a4⟩; have E1 := Aside0.mk (And.intro a2 a3); have HAD := Aside0.mk (adata_calls A D 1 bs vs w2 a1); have HSD := Aside0.mk (nsd_dv w.heap.size D (xs.map entOf) frm til HX.out.2.2.2.1 (by simpa using HX.out.2.2.2.2) w2 a2 (by have := HB.out.size; have := a3.size; omega)); clear a1 a2 a3 a4) | (go_at_call 24; refine HAD.out.mono ?_; rintro e w' ⟨rfl, hw1⟩; subst w') | (go_at_call 22; refine HSD.out.mono ?_; rintro e w3 ⟨D2, rfl, a1, a2⟩; have E2 := Aside0.mk (And.intro a1 a2); have HFD := Aside0.mk (nfd_dv w.heap.size D2 (xs.map entOf) frm (til - frm : Nat) w3 a1 (by have := HB.out.size; have := E1.out.2.size; have := a2.size; omega)); clear a1 a2) | (go_at_call 21; refine HFD.out.mono ?_; rintro e w4 ⟨A2, rfl, a1, a2⟩; have E3 := Aside0.mk (And.intro a1 a2); clear a1 a2))
        go_ret
        exact ⟨A2, rfl, E3.out.1, HB.out.trans (E1.out.2.trans (E2.out.2.trans E3.out.2))⟩
end Go.Proofs.YtndbeeboehekaaaGreatDoor.Q

/- An array's bits and values. -/
namespace Go.Proofs.YtndbeeboehekaaaGreatDoor.Q
open Go.RowKit Go.Proofs.YtndbeeboehekaaaGreatDoorW.PrintWords Go.Proofs.YtndbeeboehekaaaGreatDoorW.PrintLast Go.Proofs.YtndbeeboehekaaaGreatDoorW.PrintMore
set_option linter.unusedVariables false
set_option linter.unusedSimpArgs false
theorem and_all : (List.range 256).all (fun x => (List.range 8).all fun r => (bits .and .u8 (x : Int) ((2 ^ r : Nat) : Int) == 0) == !(x / 2 ^ r % 2 == 1)) = true := by decide +kernel
theorem and_one (x : Int) (hx : 0 ≤ x ∧ x ≤ 255) (r : Nat) (hr : r < 8) : (bits .and .u8 x ((2 ^ r : Nat) : Int) == 0) = !(x.toNat / 2 ^ r % 2 == 1) := by
  obtain ⟨n, rfl⟩ := Int.eq_ofNat_of_zero_le hx.1
  have h := List.all_eq_true.1 and_all n (List.mem_range.2 (by omega))
  have h := List.all_eq_true.1 h r (List.mem_range.2 hr)
  simpa using h
set_option maxHeartbeats 1000000 in
set_option maxRecDepth 100000 in
theorem bitnot_calls (O m c i : Nat) (bm : List Int) (w : World) (h : Row w O bm) (hok : BytesOk bm) (hm : m ≤ bm.length) (hi : i / 8 < m) (hi2 : i ≤ 10000) (hG : GlobB w) :
    Calls Tryz.prog 50 #[.slice (some ⟨O, 0, none⟩) m c, .int .i64 (i : Int)] w fun e w' => e = .returned (.bool (!bitAt bm i)) ∧ Drawn0 w w' := by
  have hr8 : i % 8 < 8 := Nat.mod_lt _ (by omega)
  have e1 : (IntKind.u64.wrap (i : Int)) = (i : Int) := by rw [IntKind.wrap_u64]; omega
  have e2 : IntKind.u64.wrap ((i : Int) / 8) = ((i / 8 : Nat) : Int) := by rw [IntKind.wrap_u64]; omega
  have e3 : Int.tmod (IntKind.u8.wrap (i : Int)) 8 = ((i % 8 : Nat) : Int) := by rw [IntKind.wrap_u8, Int.tmod_eq_emod_of_nonneg (by omega)]; omega
  have ha := and_one (bm.getD (i / 8) 0) (ok_at hok _) (i % 8) hr8
  unfold bitAt
  rw [← ha]
  clear ha
  generalize i / 8 = q at hi e2 ⊢
  generalize i % 8 = r at hr8 e3 ⊢
  have c1 := h.cell q (by omega)
  have c2 := hG r hr8
  have g1 : (q : Int) < (m : Int) := by omega
  have g2 : (r : Int) < 8 := by omega
  generalize ((2 ^ r : Nat) : Int) = p at c2 ⊢
  generalize bm.getD q 0 = x at c1 ⊢
  clear h hG hi hm hi2 hok
  go_enter Tryz.func50, Tryz.ntmps50
  go_wp2
  go_quiet (fail)
  go_wp2
  go_ret
  exact ⟨rfl, ⟨_, rfl⟩⟩
set_option maxHeartbeats 1000000 in
set_option maxRecDepth 100000 in
theorem alen_calls (A D T sb : Nat) (bs vs : Value) (nl off len : Int) (w : World) (hA : w.heap[A]? = some (fsbO 1 (ptr D) bs vs)) (hD : w.heap[D]? = some (dataO 2 T nl off len sb)) :
    Calls Tryz.prog 28 #[ptr A] w fun e w' => e = .returned (.int .i64 len) ∧ w' = w := by
  have c1 : w.cell? ⟨A, 1, none⟩ = some (ptr D) := (blk_cell hA 1).trans rfl
  have c2 : w.cell? ⟨D, 4, none⟩ = some (.int .i64 len) := (blk_cell hD 4).trans rfl
  clear hA hD
  go_enter Tryz.func28, Tryz.ntmps28
  go_wp2
  go_ret
  exact ⟨rfl, rfl⟩
/-- An array over some values, in the open. -/
structure ArrF (w : World) (A D T sb NR VR nulls C m : Nat) (nl : Int) (bm vl : List Int) (es : List Ent) (off len : Nat) : Prop where
  hA : w.heap[A]? = some (fsbO 1 (ptr D) (.slice (some ⟨NR, 0, none⟩) m bm.length) (.slice (some ⟨VR, 0, none⟩) (3 * es.length) vl.length))
  hD : w.heap[D]? = some (dataO 2 T nl off len sb)
  inv : Inv es nulls C m bm vl
  rn : Row w NR bm
  rv : Row w VR vl
  le : off + len ≤ es.length
  ne : es ≠ []
theorem ArrF.drewN {w : World} {A D T sb NR VR nulls C m : Nat} {nl : Int} {bm vl : List Int} {es : List Ent} {off len : Nat} (h : ArrF w A D T sb NR VR nulls C m nl bm vl es off len) (n : Nat) : ArrF (w.drewN n) A D T sb NR VR nulls C m nl bm vl es off len := ⟨blk_drewN h.hA n, blk_drewN h.hD n, h.inv, blk_drewN h.rn n, blk_drewN h.rv n, h.le, h.ne⟩
set_option maxHeartbeats 1000000 in
set_option maxRecDepth 100000 in
theorem isnull_calls (A D T sb NR VR nulls C m : Nat) (nl : Int) (bm vl : List Int) (es : List Ent) (off len i : Nat) (w : World) (h : ArrF w A D T sb NR VR nulls C m nl bm vl es off len) (hi : i < len) (hG : GlobB w) :
    Calls Tryz.prog 29 #[ptr A, .int .i64 (i : Int)] w fun e w' => e = .returned (.bool (!(es.getD (off + i) (false, [])).1)) ∧ Drawn0 w w' := by
  have hL := h.inv.len
  have hle := h.inv.le
  have hlo := h.le
  have hc := h.inv.c3
  rw [← h.inv.bits (off + i)]
  obtain ⟨p, hp⟩ : ∃ p, p = off + i := ⟨_, rfl⟩
  rw [← hp]
  have c1 : w.cell? ⟨A, 2, none⟩ = some (.slice (some ⟨NR, 0, none⟩) m bm.length) := (blk_cell h.hA 2).trans rfl
  have c2 : w.cell? ⟨A, 1, none⟩ = some (ptr D) := (blk_cell h.hA 1).trans rfl
  have c3 : w.cell? ⟨D, 3, none⟩ = some (.int .i64 (off : Int)) := (blk_cell h.hD 3).trans rfl
  have HC := Aside0.mk (fun n => bitnot_calls NR m bm.length p bm (w.drewN n) (blk_drewN h.rn n) h.inv.ok hc.2.1 (by omega) (by omega) (fun r hr => hG r hr))
  have hw : IntKind.i64.wrap ((off : Int) + (i : Int)) = (p : Int) := by rw [IntKind.wrap_i64]; omega
  have hne : ((m : Int) != 0) = true := by simp; omega
  clear h hL hle hlo hc hG hi hp
  go_enter Tryz.func29, Tryz.ntmps29
  go_wp2
  go_quiet (first | (go_at_call 50; exact Calls.quiet_of ((HC.out _).mono fun _ _ h => ⟨h.1, h.2.out⟩)))
  go_wp2
  go_ret
  exact ⟨rfl, ⟨_, rfl⟩⟩
set_option maxHeartbeats 1000000 in
set_option maxRecDepth 100000 in
theorem aval_calls (A D T sb NR VR nulls C m : Nat) (nl : Int) (bm vl : List Int) (es : List Ent) (off len i : Nat) (w : World) (h : ArrF w A D T sb NR VR nulls C m nl bm vl es off len) (hi : i < len) :
    Calls Tryz.prog 31 #[ptr A, .int .i64 (i : Int)] w fun e w' => e = .returned (.slice (some ⟨VR, 3 * (off + i), none⟩) 3 (vl.length - 3 * (off + i))) ∧ Drawn0 w w' := by
  have hL := h.inv.len
  have hle := h.inv.le
  have hlo := h.le
  have hc := h.inv.c3
  obtain ⟨p, hp⟩ : ∃ p, p = off + i := ⟨_, rfl⟩
  rw [← hp]
  obtain ⟨q, hq⟩ : ∃ q, q = 3 * p := ⟨_, rfl⟩
  rw [← hq]
  obtain ⟨r, hr⟩ : ∃ r, r = q + 3 := ⟨_, rfl⟩
  have c2 : w.cell? ⟨A, 1, none⟩ = some (ptr D) := (blk_cell h.hA 1).trans rfl
  have c3 : w.cell? ⟨D, 3, none⟩ = some (.int .i64 (off : Int)) := (blk_cell h.hD 3).trans rfl
  have c4 : w.cell? ⟨A, 4, none⟩ = some (.int .i32 3) := (blk_cell h.hA 4).trans rfl
  have c5 : w.cell? ⟨A, 3, none⟩ = some (.slice (some ⟨VR, 0, none⟩) (3 * es.length) vl.length) := (blk_cell h.hA 3).trans rfl
  have HL := Aside0.mk (alen_calls A D T sb _ _ nl off len w h.hA h.hD)
  have hw1 : IntKind.i64.wrap ((i : Int) + (off : Int)) = (p : Int) := by rw [IntKind.wrap_i64]; omega
  have hw2 : IntKind.i64.wrap ((p : Int) * 3) = (q : Int) := by rw [IntKind.wrap_i64]; omega
  obtain ⟨p1, hp1⟩ : ∃ p1, p1 = p + 1 := ⟨_, rfl⟩
  have hw4 : IntKind.i64.wrap ((p : Int) + 1) = (p1 : Int) := by rw [IntKind.wrap_i64]; omega
  have hw3 : IntKind.i64.wrap ((p1 : Int) * 3) = (r : Int) := by rw [IntKind.wrap_i64]; omega
  have g1 : decide ((i : Int) < 0) = false := decide_eq_false (by omega)
  have g2 : decide ((i : Int) ≥ (len : Int)) = false := decide_eq_false (by omega)
  have g2' : decide ((len : Int) ≤ (i : Int)) = false := decide_eq_false (by omega)
  have g3 : decide (len ≤ i) = false := decide_eq_false (by omega)
  have hsl : ∀ W : World, (Instr.sliceAt 58 (.slice (some ⟨VR, 0, none⟩) (3 * es.length) vl.length) (some (.int .i64 (q : Int))) (some (.int .i64 (r : Int))) none).run Tryz.prog W = .ok (.slice (some ⟨VR, q, none⟩) 3 (vl.length - q)) W := fun W => by
    rw [run_sliceAt_slice W 58 _ _ _ _ Tryz.underlying58, run_slice_lh W 58 (some ⟨VR, 0, none⟩) (3 * es.length) vl.length Tryz.underlying58 .i64 .i64 _ _ (by omega) (by omega) (by omega)]
    have hsz : (sizeOf (Tryz.prog.elem 58)).run Tryz.prog W = .ok 1 W := by kernel_rfl
    rw [hsz]
    simp only [Result.andThen, sliced, Int.toNat_natCast]
    rw [if_neg (by omega)]
    simp [Addr.add]
    omega
  clear h hL hle hlo hc hi hp hq hr hp1
  go_enter Tryz.func31, Tryz.ntmps31
  go_wp2_with (first | (go_at_call 28; refine HL.out.mono ?_; rintro e w' ⟨rfl, hw1⟩; subst w'))
  go_ret
  exact ⟨rfl, Drawn0.refl _⟩
end Go.Proofs.YtndbeeboehekaaaGreatDoor.Q

/- Two arrays, compared. -/
namespace Go.Proofs.YtndbeeboehekaaaGreatDoor.Q
open Go.RowKit Go.Proofs.YtndbeeboehekaaaGreatDoorW.PrintWords Go.Proofs.YtndbeeboehekaaaGreatDoorW.PrintLast Go.Proofs.YtndbeeboehekaaaGreatDoorW.PrintMore
set_option linter.unusedVariables false
set_option linter.unusedSimpArgs false
/-- The bytes of a value. -/
def entB (es : List Ent) (p : Nat) : List Int := (es.getD p (false, [])).2
theorem flat_getD (es : List Ent) (h : ∀ x ∈ es, x.2.length = 3) (p j : Nat) (hp : p < es.length) (hj : j < 3) : (es.flatMap (·.2)).getD (3 * p + j) 0 = (entB es p).getD j 0 := by
  induction es generalizing p with
  | nil => simp at hp
  | cons x t ih =>
    have hx := h x (List.mem_cons_self)
    rw [List.flatMap_cons]
    unfold entB
    cases p with
    | zero => simp [List.getD_eq_getElem?_getD, List.getElem?_append_left (show j < x.2.length by omega)]
    | succ p =>
      have := ih (fun y hy => h y (List.mem_cons_of_mem _ hy)) p (by simp at hp; omega)
      unfold entB at this
      simp only [List.getD_eq_getElem?_getD] at this ⊢
      rw [List.getElem?_append_right (by omega), show 3 * (p + 1) + j - x.2.length = 3 * p + j by omega, this]
      simp
theorem entB_len {es : List Ent} (h : ∀ x ∈ es, x.2.length = 3) (p : Nat) (hp : p < es.length) : (entB es p).length = 3 := by
  unfold entB
  rw [List.getD_eq_getElem?_getD, List.getElem?_eq_getElem hp]
  exact h _ (List.getElem_mem hp)
theorem ArrF.reads {w : World} {A D T sb NR VR nulls C m : Nat} {nl : Int} {bm vl : List Int} {es : List Ent} {off len : Nat} (h : ArrF w A D T sb NR VR nulls C m nl bm vl es off len) (p : Nat) (hp : p < es.length) : Kd.C (Kd.int .u8) w (some ⟨VR, 3 * p, none⟩) (entB es p).length (entB es p) := by
  have h3 := entB_len h.inv.l3 p hp
  have hc := h.inv.c3
  refine Kd.C_of_reads (enc := Value.int .u8) (d := (0 : Int)) (h1 := fun _ => rfl) ⟨rfl, by rw [h3]; decide, fun _ => ⟨_, rfl, fun j hj => ?_⟩⟩
  have e : (⟨VR, 3 * p, none⟩ : Addr).add j = ⟨VR, 3 * p + j, none⟩ := by simp [Addr.add]
  rw [e, h.rv.cell (3 * p + j) (by omega), ← flat_getD es h.inv.l3 p j hp (by omega), ← h.inv.vals]
  congr 2
  simp only [List.getD_eq_getElem?_getD]
  rw [List.getElem?_take_of_lt (by omega)]
/-- What is compared at a place. -/
def sameAt (es es2 : List Ent) (off off2 i : Nat) : Bool := !(es.getD (off + i) (false, [])).1 || ((strOfNums (entB es (off + i))).toList == (strOfNums (entB es2 (off2 + i))).toList)
def sameAll (es es2 : List Ent) (off off2 len : Nat) : Bool := (List.range len).all (sameAt es es2 off off2)
theorem sameAll_no {es es2 : List Ent} {off off2 len i : Nat} (hi : i < len) (h : sameAt es es2 off off2 i = false) : sameAll es es2 off off2 len = false := by
  unfold sameAll
  rw [List.all_eq_false]
  exact ⟨i, List.mem_range.2 hi, by rw [h]; simp⟩
set_option maxHeartbeats 1000000 in
set_option maxRecDepth 100000 in
theorem eq_full (A D T sb NR VR nulls C m : Nat) (nl : Int) (bm vl : List Int) (es : List Ent) (off len : Nat) (A2 D2 T2 sb2 NR2 VR2 nulls2 C2 m2 : Nat) (nl2 : Int) (bm2 vl2 : List Int) (es2 : List Ent) (off2 : Nat) (w : World) (h : ArrF w A D T sb NR VR nulls C m nl bm vl es off len) (h2 : ArrF w A2 D2 T2 sb2 NR2 VR2 nulls2 C2 m2 nl2 bm2 vl2 es2 off2 len) (hG : GlobB w) :
    Calls Tryz.prog 17 #[ptr A, ptr A2] w fun e w' => e = .returned (.bool (sameAll es es2 off off2 len)) ∧ Drawn0 w w' := by
  have HL := Aside0.mk (fun n => alen_calls A D T sb _ _ nl off len (w.drewN n) (h.drewN n).hA (h.drewN n).hD)
  have HN := Aside0.mk (fun n i hi => isnull_calls A D T sb NR VR nulls C m nl bm vl es off len i (w.drewN n) (h.drewN n) hi (fun r hr => hG r hr))
  have HV := Aside0.mk (fun n i hi => aval_calls A D T sb NR VR nulls C m nl bm vl es off len i (w.drewN n) (h.drewN n) hi)
  have HV2 := Aside0.mk (fun n i hi => aval_calls A2 D2 T2 sb2 NR2 VR2 nulls2 C2 m2 nl2 bm2 vl2 es2 off2 len i (w.drewN n) (h2.drewN n) hi)
  have HR := Aside0.mk (And.intro (fun n => (h.drewN n).reads) (fun n => (h2.drewN n).reads))
  have HI := Aside0.mk (And.intro h.inv (And.intro h2.inv (And.intro h.le h2.le)))
  clear h h2 hG
  go_enter Tryz.func17, Tryz.ntmps17
  go_wp2
  go_loopg [5] (len + 1) (fun kq v4 w' => ∃ (i n : Nat), v4 = .int .i64 (i : Int) ∧ Aside0 (i + kq = len + 1) ∧ Aside0 (i ≤ len) ∧ w' = w.drewN n ∧ Aside0 (∀ j, j < i → sameAt es es2 off off2 j = true))
  case atStart => exact ⟨0, 0, rfl, ⟨by omega⟩, ⟨by omega⟩, rfl, ⟨fun j hj => absurd hj (by omega)⟩⟩
  case round =>
    obtain ⟨i, n, rfl, HK, HI2, rfl, HS⟩ := hrel
    cases gk with
    | zero => exact absurd HK.out (by have := HI2.out; omega)
    | succ k1 =>
      by_cases c2 : i < len
      · have c2b : decide ((i : Int) < (len : Int)) = true := decide_eq_true (by omega)
        have c2c : decide (i < len) = true := decide_eq_true (by omega)
        have hlen := HI.out
        have hp1 : off + i < es.length := by omega
        have hp2 : off2 + i < es2.length := by omega
        have l1 := entB_len hlen.1.l3 _ hp1
        have l2 := entB_len hlen.2.1.l3 _ hp2
        have hsize : len ≤ 1000 := by have := hlen.1.c3; omega
        have HWI := Aside0.mk (show wrap64 ((i : Int) + 1) = ((i + 1 : Nat) : Int) by unfold wrap64; omega)
        have HE := Aside0.mk (fun n c c' hc hc' => bytes_Equal.calls (some ⟨VR, 3 * (off + i), none⟩) c (entB es (off + i)) (some ⟨VR2, 3 * (off2 + i), none⟩) c' (entB es2 (off2 + i)) _ (w.drewN n) (HR.out.1 n _ hp1) hc (HR.out.2 n _ hp2) hc' rfl)
        rw [l1, l2] at HE
        have hsame : sameAt es es2 off off2 i = (!(es.getD (off + i) (false, [])).1 || ((strOfNums (entB es (off + i))).toList == (strOfNums (entB es2 (off2 + i))).toList)) := rfl
        have HNi := Aside0.mk (fun n => HN.out n i c2)
        have HVi := Aside0.mk (fun n => HV.out n i c2)
        have HV2i := Aside0.mk (fun n => HV2.out n i c2)
        generalize (es.getD (off + i) (false, [])).1 = bn at hsame HNi
        generalize ((strOfNums (entB es (off + i))).toList == (strOfNums (entB es2 (off2 + i))).toList) = be at hsame HE
        have HSM := Aside0.mk hsame
        have hv1 : 3 ≤ vl.length - 3 * (off + i) := by have := hlen.1.c3; omega
        have hv2 : 3 ≤ vl2.length - 3 * (off2 + i) := by have := hlen.2.1.c3; omega
        generalize vl.length - 3 * (off + i) = cv1 at hv1 HVi
        generalize vl2.length - 3 * (off2 + i) = cv2 at hv2 HV2i
        have HE2 := Aside0.mk (fun n => HE.out n cv1 cv2 hv1 hv2)
        clear hsame hlen HE l1 l2 hv1 hv2
        cases bn
        · go_wp2_with (first | (go_at_call 28; refine (HL.out n).mono ?_; rintro e w' ⟨rfl, hw1⟩; subst w') | (go_at_call 29; refine (HNi.out n).mono ?_; rintro e w' ⟨rfl, ⟨n1, rfl⟩⟩; simp only [World.drewN_drewN]))
          go_roundg k1
          case measure => have := HK.out; omega
          case rel => exact ⟨i + 1, n + n1, (by first | rw [HWI.out] | rfl), ⟨by have := HK.out; omega⟩, ⟨by omega⟩, rfl, ⟨fun j hj => by
            by_cases e : j < i
            · exact HS.out j e
            · rw [show j = i by omega, HSM.out]; rfl⟩⟩
        · cases be
          · go_wp2_with (first | (go_at_call 28; refine (HL.out n).mono ?_; rintro e w' ⟨rfl, hw1⟩; subst w') | (go_at_call 29; refine (HNi.out n).mono ?_; rintro e w' ⟨rfl, ⟨n1, rfl⟩⟩; simp only [World.drewN_drewN]) | (go_at_call 31; first | (refine (HVi.out (n + n1)).mono ?_; rintro e w' ⟨rfl, ⟨n2, rfl⟩⟩; simp only [World.drewN_drewN]; clear HVi) | (refine (HV2i.out (n + n1 + n2)).mono ?_; rintro e w' ⟨rfl, ⟨n3, rfl⟩⟩; simp only [World.drewN_drewN])) | (go_at_call 30; refine (HE2.out (n + n1 + n2 + n3)).mono ?_; rintro e w' ⟨rfl, ⟨n4, rfl⟩⟩; simp only [World.drewN_drewN]))
            go_ret
            rw [sameAll_no c2 HSM.out]
            exact ⟨rfl, ⟨_, rfl⟩⟩
          · go_wp2_with (first | (go_at_call 28; refine (HL.out n).mono ?_; rintro e w' ⟨rfl, hw1⟩; subst w') | (go_at_call 29; refine (HNi.out n).mono ?_; rintro e w' ⟨rfl, ⟨n1, rfl⟩⟩; simp only [World.drewN_drewN]) | (go_at_call 31; first | (refine (HVi.out (n + n1)).mono ?_; rintro e w' ⟨rfl, ⟨n2, rfl⟩⟩; simp only [World.drewN_drewN]; clear HVi) | (refine (HV2i.out (n + n1 + n2)).mono ?_; rintro e w' ⟨rfl, ⟨n3, rfl⟩⟩; simp only [World.drewN_drewN])) | (go_at_call 30; refine (HE2.out (n + n1 + n2 + n3)).mono ?_; rintro e w' ⟨rfl, ⟨n4, rfl⟩⟩; simp only [World.drewN_drewN]))
            go_roundg k1
            case measure => have := HK.out; omega
            case rel => exact ⟨i + 1, _, (by first | rw [HWI.out] | rfl), ⟨by have := HK.out; omega⟩, ⟨by omega⟩, rfl, ⟨fun j hj => by
              by_cases e : j < i
              · exact HS.out j e
              · rw [show j = i by omega, HSM.out]; rfl⟩⟩
      · have c2b : decide ((i : Int) < (len : Int)) = false := decide_eq_false (by omega)
        have c2c : decide (i < len) = false := decide_eq_false (by omega)
        have hi : i = len := by have := HI2.out; omega
        subst hi
        go_wp2_with (first | (go_at_call 28; refine (HL.out n).mono ?_; rintro e w' ⟨rfl, hw1⟩; subst w'))
        go_ret
        have : sameAll es es2 off off2 i = true := List.all_eq_true.2 (fun j hj => HS.out j (List.mem_range.1 hj))
        rw [this]
        exact ⟨rfl, ⟨_, rfl⟩⟩
end Go.Proofs.YtndbeeboehekaaaGreatDoor.Q

/- impl.SameFixedSizeBinary. -/
namespace Go.Proofs.YtndbeeboehekaaaGreatDoor.Q
open Go.RowKit Go.Proofs.YtndbeeboehekaaaGreatDoorW.PrintWords Go.Proofs.YtndbeeboehekaaaGreatDoorW.PrintLast Go.Proofs.YtndbeeboehekaaaGreatDoorW.PrintMore
set_option linter.unusedVariables false
set_option linter.unusedSimpArgs false
set_option maxHeartbeats 1000000 in
set_option maxRecDepth 100000 in
theorem eq_zero (A D T sb A2 : Nat) (bs vs : Value) (nl off : Int) (w : World) (hA : w.heap[A]? = some (fsbO 1 (ptr D) bs vs)) (hD : w.heap[D]? = some (dataO 2 T nl off 0 sb)) :
    Calls Tryz.prog 17 #[ptr A, ptr A2] w fun e w' => e = .returned (.bool true) ∧ Drawn0 w w' := by
  have HL := Aside0.mk (alen_calls A D T sb _ _ nl off 0 w hA hD)
  clear hA hD
  go_enter Tryz.func17, Tryz.ntmps17
  go_wp2
  refine wp_loop_rounds 1 ?_
  rw [rounds_succ]
  go_wp2_with (first | (go_at_call 28; refine HL.out.mono ?_; rintro e w' ⟨rfl, hw1⟩; subst w'))
  go_ret
  exact ⟨rfl, Drawn0.refl _⟩
theorem eq_any (A A2 B B2 : Nat) (es es2 : List Ent) (off off2 len : Nat) (w : World) (h : Arr w B A es off len) (h2 : Arr w B2 A2 es2 off2 len) (l1 : off + len ≤ es.length) (l2 : off2 + len ≤ es2.length) (hG : GlobB w) :
    Calls Tryz.prog 17 #[ptr A, ptr A2] w fun e w' => e = .returned (.bool (sameAll es es2 off off2 len)) ∧ Drawn0 w w' := by
  by_cases hz : len = 0
  · subst hz
    have e0 : sameAll es es2 off off2 0 = true := rfl
    rw [e0]
    rcases h with ⟨_, D, X, T, nl, sb, hA, hD⟩ | ⟨_, D, T, nl, sb, NR, VR, nulls, C, m, bm, vl, hA, hD, _⟩
    · exact eq_zero A D T sb A2 _ _ nl off w hA hD
    · exact eq_zero A D T sb A2 _ _ nl off w hA hD
  · rcases h with ⟨e, _⟩ | ⟨hne, D, T, nl, sb, NR, VR, nulls, C, m, bm, vl, hA, hD, hi, hr, hv⟩
    · subst e; simp at l1; omega
    · rcases h2 with ⟨e, _⟩ | ⟨hne2, D2, T2, nl2, sb2, NR2, VR2, nulls2, C2, m2, bm2, vl2, hA2, hD2, hi2, hr2, hv2⟩
      · subst e; simp at l2; omega
      · exact eq_full A D T sb NR VR nulls C m nl bm vl es off len A2 D2 T2 sb2 NR2 VR2 nulls2 C2 m2 nl2 bm2 vl2 es2 off2 w ⟨hA, hD, hi, hr, hv, l1, hne⟩ ⟨hA2, hD2, hi2, hr2, hv2, l2, hne2⟩ hG
set_option maxHeartbeats 1000000 in
set_option maxRecDepth 100000 in
theorem cmp_any (A A2 B B2 : Nat) (es es2 : List Ent) (off off2 len : Nat) (w : World) (h : Arr w B A es off len) (h2 : Arr w B2 A2 es2 off2 len) (l1 : off + len ≤ es.length) (l2 : off2 + len ≤ es2.length) (hG : GlobB w) :
    Calls Tryz.prog 9 #[ptr A, ptr A2] w fun e w' => e = .returned (.bool (sameAll es es2 off off2 len)) ∧ Drawn0 w w' := by
  have HC := Aside0.mk (eq_any A A2 B B2 es es2 off off2 len w h h2 l1 l2 hG)
  clear h h2 l1 l2 hG
  go_enter Tryz.func9, Tryz.ntmps9
  go_wp2_with (first | (go_at_call 17; refine HC.out.mono ?_; rintro e w' ⟨rfl, ⟨n1, rfl⟩⟩))
  go_ret
  exact ⟨rfl, ⟨_, rfl⟩⟩
theorem failed_idle (p : Addr) (w : World) :
    CallsD Tryz.prog 7 #[.pointer (some p), .slice none 0 0] .returning w fun e u' w' => e = .returned (.tuple #[]) ∧ u' = .returning ∧ w' = w := by
  refine callsD_of_wpS Tryz.func7 rfl fun c₀ cs hu => ?_
  apply wpS_seq
  apply wpS_region
  simp [wpOpsS, go_sem, recoverD, hu, Tryz.ntmps7, Exit.thenS]
  refine wpS_cond (t := false) (by simp [Act.eval, Array.replicate]) ?_
  simp only [Bool.false_eq_true, if_false]
  refine wpS_of_wp (wp_skip ?_)
  cases c₀
  simp_all [bodyPostS, results, Tryz.results7]
theorem Arr.below {w w' : World} {B A : Nat} {es : List Ent} {off len : Int} (h : Arr w B A es off len) (hb : Below w.heap.size w w') : Arr w' B A es off len := by
  rcases h with ⟨e, D, X, T, nl, sb, hA, hD⟩ | ⟨e, D, T, nl, sb, NR, VR, nulls, C, m, bm, vl, hA, hD, hi, hr, hv⟩
  · exact .inl ⟨e, D, X, T, nl, sb, blk_below hA hb, blk_below hD hb⟩
  · exact .inr ⟨e, D, T, nl, sb, NR, VR, nulls, C, m, bm, vl, blk_below hA hb, blk_below hD hb, hi, hr.below hb, hv.below hb⟩
/-- Whether values are alike. -/
def okV (x : S25) : Bool := x.f0 || x.f2.size == 3
set_option maxHeartbeats 1000000 in
set_option maxRecDepth 100000 in
theorem same_walk (A0 : Option Addr) (c0 : Nat) (l0 : List S25) (a1 a2 : Nat) (A3 : Option Addr) (c3 : Nat) (l3 : List S25) (a4 a5 : Nat) (k : Nat) (al : Bool) (w : World) (hr0 : Kd.C k25 w A0 l0.length l0) (hc0 : l0.length ≤ c0) (hr3 : Kd.C k25 w A3 l3.length l3) (hc3 : l3.length ≤ c3) (hG : GlobB w)
    (ha : impl_alike.f k l0 a1 a2 l3 a4 a5 = some al) (hl : al = true → a2 - a1 = a5 - a4) (h1 : a1 ≤ a2 ∧ a2 ≤ l0.length) (h2 : a4 ≤ a5 ∧ a5 ≤ l3.length) (m0 : l0.length ≤ 100) (m3 : l3.length ≤ 100) (o0 : ∀ x ∈ l0, okV x = true) (o3 : ∀ x ∈ l3, okV x = true) :
    Calls Tryz.prog 4 #[.slice A0 l0.length c0, .int .i64 (a1 : Int), .int .i64 (a2 : Int), .slice A3 l3.length c3, .int .i64 (a4 : Int), .int .i64 (a5 : Int)] w fun e w' => e = .returned (.tuple #[.bool (al && sameAll (l0.map entOf) (l3.map entOf) a1 a4 (a2 - a1)), .bool al]) ∧ Below w.heap.size w w' := by
  obtain ⟨W1, hW1⟩ : ∃ W1, W1 = w.alloc (.cells #[.bool false] 4) := ⟨_, rfl⟩
  have b1 : Below w.heap.size w W1 := by rw [hW1]; exact below_alloc (Below.refl _ _) _
  have k1 : W1.heap[w.heap.size]? = some (.cells #[.bool false] 4 (0, 0)) := by rw [hW1]; exact blk_new w _
  have f0 : ∀ x ∈ l0, x.f0 = false → x.f2.size = 3 := fun x hx hf => by have := o0 x hx; unfold okV at this; rw [hf] at this; simpa using this
  have f3 : ∀ x ∈ l3, x.f0 = false → x.f2.size = 3 := fun x hx hf => by have := o3 x hx; unfold okV at this; rw [hf] at this; simpa using this
  have hw2 : 2 < w.heap.size := hG.block
  have HA := Aside0.mk (impl_alike.calls k A0 c0 l0 a1 a2 A3 c3 l3 a4 a5 al W1 (Kd.C_below hr0 b1) hc0 (Kd.C_below hr3 b1) hc3 ha)
  have HS := Aside0.mk (fun W (hb : Below w.heap.size w W) => sl_calls A0 c0 l0 a1 a2 W (Kd.C_below hr0 hb) hc0 (hG.below hb hw2) m0 f0 h1.1 h1.2)
  have HS3 := Aside0.mk (fun W (hb : Below w.heap.size w W) => sl_calls A3 c3 l3 a4 a5 W (Kd.C_below hr3 hb) hc3 (hG.below hb hw2) m3 f3 h2.1 h2.2)
  have HB := Aside0.mk (And.intro b1 (And.intro k1 (And.intro hl (And.intro h1 (And.intro h2 (And.intro hG hw2))))))
  clear hr0 hc0 hr3 hc3 hG ha hl h1 h2 m0 m3 o0 o3 f0 f3 b1 k1 hw2
  go_enter_defers Tryz.func4, Tryz.ntmps4
  go_upto_region 2 with (fail)
  rw [← hW1]
  clear hW1
  have hz1 : W1.frozen? ⟨w.heap.size, 0, none⟩ = false := blk_frozen HB.out.2.1 0
  have hq1 : W1.cell? ⟨w.heap.size, 0, none⟩ = some (.bool false) := (blk_cell HB.out.2.1 0).trans rfl
  cases al
  · go_wp2_with (first | (go_at_call 8; refine HA.out.mono ?_; rintro e w' ⟨rfl, ⟨n1, rfl⟩⟩; have hz2 : (W1.drewN n1).frozen? ⟨w.heap.size, 0, none⟩ = false := hz1; have hq2 : (W1.drewN n1).cell? ⟨w.heap.size, 0, none⟩ = some (.bool false) := hq1))
    have e0 := blk_set (blk_drewN HB.out.2.1 n1) 0 (.bool false)
    have hB : Below w.heap.size w ((W1.drewN n1).setCell ⟨w.heap.size, 0, none⟩ (.bool false)) := Below.setCell (p := ⟨w.heap.size, 0, none⟩) (pw_below_drewN HB.out.1 n1) (Nat.le_refl _) _
    generalize (W1.drewN n1).setCell ⟨w.heap.size, 0, none⟩ (.bool false) = w7 at e0 hB ⊢
    have c1 : w7.cell? ⟨w.heap.size, 0, none⟩ = some (.bool false) := (blk_cell e0 0).trans rfl
    refine leaves_cons (f := 7) (args := #[.pointer (some ⟨w.heap.size, 0, none⟩), .slice none 0 0]) (by simp) (by simp [go_sem]) ?_
    refine (failed_idle _ _).mono ?_
    rintro e u' w'' ⟨rfl, rfl, rfl⟩
    refine ⟨.tuple #[.bool false, .bool false], ?_, rfl, hB⟩
    simp [results, Tryz.results4, go_sem, c1]
  · go_wp2_with (first | (go_at_call 8; refine HA.out.mono ?_; rintro e w' ⟨rfl, ⟨n1, rfl⟩⟩; have hb1 : Below w.heap.size w (W1.drewN n1) := pw_below_drewN HB.out.1 n1; have HSa := Aside0.mk (HS.out _ hb1); have HBa := Aside0.mk hb1; clear hb1 HS) | (go_at_call 10; first | (refine HSa.out.mono ?_; rintro e w2 ⟨A, rfl, r1, r2⟩; have R := Aside0.mk (And.intro r1 r2); have hb2 : Below w.heap.size w w2 := HBa.out.trans (r2.mono HBa.out.size); have HSb := Aside0.mk (HS3.out w2 hb2); have HBb := Aside0.mk hb2; clear r1 r2 hb2 HSa) | (refine HSb.out.mono ?_; rintro e w3 ⟨A2, rfl, r1, r2⟩; have R2 := Aside0.mk (And.intro r1 r2); have hb3 : Below w.heap.size w w3 := HBb.out.trans (r2.mono HBb.out.size); have HBc := Aside0.mk hb3; have hlen := HB.out.2.2.1 (by simp); have HCM := Aside0.mk (cmp_any A A2 _ _ (l0.map entOf) (l3.map entOf) a1 a4 (a2 - a1) w3 (R.out.1.below r2) (by rw [hlen]; exact r1) (by have := HB.out.2.2.2.1; simp; omega) (by have := HB.out.2.2.2.2.1; simp; omega) (HB.out.2.2.2.2.2.1.below hb3 HB.out.2.2.2.2.2.2)); clear r1 r2 hb3)) | (go_at_call 9; refine HCM.out.mono ?_; rintro e w' ⟨rfl, ⟨n4, rfl⟩⟩; have k4 : (w3.drewN n4).heap[w.heap.size]? = some (.cells #[.bool false] 4 (0, 0)) := blk_drewN (blk_below (blk_below (blk_drewN HB.out.2.1 n1) R.out.2) R2.out.2) n4; have hz4 := blk_frozen k4 0; have hq4 : (w3.drewN n4).cell? ⟨w.heap.size, 0, none⟩ = some (.bool false) := (blk_cell k4 0).trans rfl; have K4 := Aside0.mk k4; clear k4))
    have e0 := blk_set (K4.out) 0 (.bool true)
    have hB : Below w.heap.size w ((w3.drewN n4).setCell ⟨w.heap.size, 0, none⟩ (.bool true)) := Below.setCell (p := ⟨w.heap.size, 0, none⟩) (pw_below_drewN HBc.out n4) (Nat.le_refl _) _
    generalize (w3.drewN n4).setCell ⟨w.heap.size, 0, none⟩ (.bool true) = w7 at e0 hB ⊢
    have c1 : w7.cell? ⟨w.heap.size, 0, none⟩ = some (.bool true) := (blk_cell e0 0).trans rfl
    refine leaves_cons (f := 7) (args := #[.pointer (some ⟨w.heap.size, 0, none⟩), .slice none 0 0]) (by simp) (by simp [go_sem]) ?_
    refine (failed_idle _ _).mono ?_
    rintro e u' w'' ⟨rfl, rfl, rfl⟩
    refine ⟨.tuple #[.bool (sameAll (l0.map entOf) (l3.map entOf) a1 a4 (a2 - a1)), .bool true], ?_, by simp, hB⟩
    simp [results, Tryz.results4, go_sem, c1]
    try rw [hlen]
/-- Nulls at the same places, from a place on. -/
def nullAt (l0 l3 : List S25) (a1 a4 i : Nat) : Bool := (l0.getD (a1 + i) z25).f0 == (l3.getD (a4 + i) z25).f0
theorem alike_l0 (l0 l3 : List S25) (a1 a4 n : Nat) (h1 : a1 + n ≤ l0.length) (h2 : a4 + n ≤ l3.length) (m0 : l0.length ≤ 100) (m3 : l3.length ≤ 100) : ∀ (d i : Nat), i + d = n → ∀ k, d < k → impl_alike.l0 k l0 (a1 : Int) l3 (a4 : Int) (n : Int) (i : Int) = some ((List.range d).all fun j => nullAt l0 l3 a1 a4 (i + j)) := by
  intro d
  induction d with
  | zero =>
    intro i hi k hk
    cases k with
    | zero => omega
    | succ k =>
      unfold impl_alike.l0
      rw [if_neg (by omega)]
      rfl
  | succ d ih =>
    intro i hi k hk
    cases k with
    | zero => omega
    | succ k =>
      have w1 : wrap64 ((a1 : Int) + (i : Int)) = ((a1 + i : Nat) : Int) := by unfold wrap64; omega
      have w2 : wrap64 ((a4 : Int) + (i : Int)) = ((a4 + i : Nat) : Int) := by unfold wrap64; omega
      have w3 : wrap64 ((i : Int) + 1) = ((i + 1 : Nat) : Int) := by unfold wrap64; omega
      have q1 : (i : Int) < (n : Int) := by clear w1 w2 w3; omega
      have q2 : (0 : Int) ≤ ((a1 + i : Nat) : Int) := Int.natCast_nonneg _
      have q3 : ((a1 + i : Nat) : Int) < (l0.length : Int) := by clear w1 w2 w3; omega
      have q4 : (0 : Int) ≤ ((a4 + i : Nat) : Int) := Int.natCast_nonneg _
      have q5 : ((a4 + i : Nat) : Int) < (l3.length : Int) := by clear w1 w2 w3; omega
      have q6 : i + 1 + d = n := by clear w1 w2 w3; omega
      have q7 : d < k := by clear w1 w2 w3; omega
      unfold impl_alike.l0
      rw [w1, w2, w3, if_pos q1, if_pos q2, if_pos q3, if_pos q4, if_pos q5, ih (i + 1) q6 k q7]
      clear w1 w2 w3 q1 q2 q3 q4 q5
      have e1 : rd_T25 l0 ((a1 + i : Nat) : Int) = l0.getD (a1 + i) z25 := by unfold rd_T25; rw [Int.toNat_natCast]
      have e2 : rd_T25 l3 ((a4 + i : Nat) : Int) = l3.getD (a4 + i) z25 := by unfold rd_T25; rw [Int.toNat_natCast]
      rw [e1, e2]
      have hsplit : ((List.range (d + 1)).all fun j => nullAt l0 l3 a1 a4 (i + j)) = (nullAt l0 l3 a1 a4 i && (List.range d).all fun j => nullAt l0 l3 a1 a4 (i + 1 + j)) := by
        rw [List.range_succ_eq_map, List.all_cons, List.all_map]
        congr 2
        funext j
        show nullAt l0 l3 a1 a4 (i + (j + 1)) = _
        rw [show i + (j + 1) = i + 1 + j by omega]
      rw [hsplit]
      unfold nullAt
      cases h : ((l0.getD (a1 + i) z25).f0 == (l3.getD (a4 + i) z25).f0) with
      | true =>
        have hb : ((l0.getD (a1 + i) z25).f0 != (l3.getD (a4 + i) z25).f0) = false := by rw [bne, h]; rfl
        rw [hb, if_neg (by decide), Bool.true_and]
      | false =>
        have hb : ((l0.getD (a1 + i) z25).f0 != (l3.getD (a4 + i) z25).f0) = true := by rw [bne, h]; rfl
        rw [hb, if_pos rfl, Bool.false_and]
def alB (l0 l3 : List S25) (a1 a2 a4 a5 : Nat) : Bool := (a2 - a1 == a5 - a4) && (List.range (a2 - a1)).all fun j => nullAt l0 l3 a1 a4 j
theorem alike_eq (l0 l3 : List S25) (a1 a2 a4 a5 : Nat) (h1 : a1 ≤ a2 ∧ a2 ≤ l0.length) (h2 : a4 ≤ a5 ∧ a5 ≤ l3.length) (m0 : l0.length ≤ 100) (m3 : l3.length ≤ 100) : impl_alike.f 200 l0 (a1 : Int) (a2 : Int) l3 (a4 : Int) (a5 : Int) = some (alB l0 l3 a1 a2 a4 a5) := by
  have w1 : wrap64 ((a2 : Int) - (a1 : Int)) = ((a2 - a1 : Nat) : Int) := by unfold wrap64; omega
  have w2 : wrap64 ((a5 : Int) - (a4 : Int)) = ((a5 - a4 : Nat) : Int) := by unfold wrap64; omega
  obtain ⟨k, hk⟩ : ∃ k, 200 = k + 1 := ⟨199, rfl⟩
  rw [hk]
  unfold impl_alike.f
  rw [if_neg (by omega), if_neg (by omega), if_neg (by omega), if_neg (by omega), if_neg (by omega), if_neg (by omega)]
  rw [impl_alike.j0, w1, w2]
  clear w1 w2
  unfold alB
  by_cases c : a2 - a1 = a5 - a4
  · rw [c, if_neg (by simp)]
    refine (alike_l0 l0 l3 a1 a4 (a5 - a4) (by omega) (by omega) m0 m3 (a5 - a4) 0 (by omega) k (by omega)).trans ?_
    simp
  · rw [if_pos (by simp only [bne, Bool.not_eq_true', beq_eq_false_iff_ne, ne_eq]; omega)]
    have : (a2 - a1 == a5 - a4) = false := by simpa using c
    rw [this]
    rfl
/-- What is asked of the lists. -/
def GoodS (l0 : List S25) (a1 a2 : Int) (l3 : List S25) (a4 a5 : Int) : Prop := (0 ≤ a1 ∧ a1 ≤ a2 ∧ a2 ≤ l0.length) ∧ (0 ≤ a4 ∧ a4 ≤ a5 ∧ a5 ≤ l3.length) ∧ (l0.length ≤ 100 ∧ l3.length ≤ 100) ∧ (∀ x ∈ l0, okV x = true) ∧ (∀ x ∈ l3, okV x = true)
instance (l0 : List S25) (a1 a2 : Int) (l3 : List S25) (a4 a5 : Int) : Decidable (GoodS l0 a1 a2 l3 a4 a5) := by unfold GoodS; infer_instance
def impl_SameFixedSizeBinary.f (l0 : List S25) (a1 a2 : Int) (l3 : List S25) (a4 a5 : Int) : Option (Bool × Bool) :=
  if GoodS l0 a1 a2 l3 a4 a5 then some (alB l0 l3 a1.toNat a2.toNat a4.toNat a5.toNat && sameAll (l0.map entOf) (l3.map entOf) a1.toNat a4.toNat (a2.toNat - a1.toNat), alB l0 l3 a1.toNat a2.toNat a4.toNat a5.toNat) else none
theorem impl_SameFixedSizeBinary.calls0 (A0 : Option Addr) (c0 : Nat) (l0 : List S25) (a1 a2 : Int) (A3 : Option Addr) (c3 : Nat) (l3 : List S25) (a4 a5 : Int) (r1 r2 : Bool) (w : World) (hr0 : Kd.C k25 w A0 l0.length l0) (hc0 : l0.length ≤ c0) (hr3 : Kd.C k25 w A3 l3.length l3) (hc3 : l3.length ≤ c3) (h : impl_SameFixedSizeBinary.f l0 a1 a2 l3 a4 a5 = some (r1, r2)) (hG : GlobB w) :
    Calls Tryz.prog 4 #[.slice A0 l0.length c0, .int .i64 a1, .int .i64 a2, .slice A3 l3.length c3, .int .i64 a4, .int .i64 a5] w fun e w' => e = .returned (.tuple #[.bool r1, .bool r2]) ∧ Below w.heap.size w w' := by
  unfold impl_SameFixedSizeBinary.f at h
  by_cases hf : GoodS l0 a1 a2 l3 a4 a5
  · rw [if_pos hf] at h
    simp only [Option.some.injEq, Prod.mk.injEq] at h
    obtain ⟨rfl, rfl⟩ := h
    obtain ⟨g1, g2, g3, g4, g5⟩ := hf
    obtain ⟨n1, rfl⟩ : ∃ n : Nat, a1 = (n : Int) := ⟨a1.toNat, by omega⟩
    obtain ⟨n2, rfl⟩ : ∃ n : Nat, a2 = (n : Int) := ⟨a2.toNat, by omega⟩
    obtain ⟨n4, rfl⟩ : ∃ n : Nat, a4 = (n : Int) := ⟨a4.toNat, by omega⟩
    obtain ⟨n5, rfl⟩ : ∃ n : Nat, a5 = (n : Int) := ⟨a5.toNat, by omega⟩
    simp only [Int.toNat_natCast]
    refine same_walk A0 c0 l0 n1 n2 A3 c3 l3 n4 n5 200 _ w hr0 hc0 hr3 hc3 hG (alike_eq l0 l3 n1 n2 n4 n5 (by omega) (by omega) g3.1 g3.2) (fun h => ?_) (by omega) (by omega) g3.1 g3.2 g4 g5
    unfold alB at h
    rw [Bool.and_eq_true] at h
    simpa using h.1
  · rw [if_neg hf] at h
    cases h
end Go.Proofs.YtndbeeboehekaaaGreatDoor.Q
