/- The writer of bits: groups of seven bits, its stream, what waits written out. -/
import Derived.Test.YtiieljnllgeoeaaGreatFe
namespace Go.Proofs.YtiieljnllgeoeaaGreat.Q
open Go.RowKit Go.Proofs.YtiieljnllgeoeaaGreatW.PrintWords Go.Proofs.YtiieljnllgeoeaaGreatW.PrintLast Go.Proofs.YtiieljnllgeoeaaGreatW.PrintMore
set_option linter.unusedVariables false
set_option linter.unusedSimpArgs false
set_option maxHeartbeats 1000000 in
set_option maxRecDepth 100000 in
theorem bfb_calls (n : Nat) (h : n ≤ 1000) (w : World) : Calls Tryz.prog 75 #[.int .i64 (n : Int)] w fun e w' => e = .returned (.int .i64 (((n + 7) / 8 : Nat) : Int)) ∧ w' = w := by
 have h1 : IntKind.i64.wrap ((n : Int) + 7) = (n : Int) + 7 := by rw [IntKind.wrap_i64]; omega
 have h2 : ((n : Int) + 7) / 8 = (((n + 7) / 8 : Nat) : Int) := by omega
 have H2 := Aside0.mk h2
 clear h2
 go_enter Tryz.func75, Tryz.ntmps75
 go_wp2
 go_ret
 refine ⟨?_, rfl⟩
 show Ending.returned (Value.int .i64 (((n : Int) + 7) / 8)) = _
 rw [H2.out]
theorem or128 (x : Nat) : bits .or .u8 ((x : Int) % 256) 128 = ((x % 128 + 128 : Nat) : Int) := by
 have h : ∀ y : Fin 256, bits .or .u8 ((y.val : Nat) : Int) 128 = ((y.val % 128 + 128 : Nat) : Int) := by decide +kernel
 have e := h ⟨x % 256, by omega⟩
 rw [show (x : Int) % 256 = ((x % 256 : Nat) : Int) by omega, e]
 show ((x % 256 % 128 + 128 : Nat) : Int) = ((x % 128 + 128 : Nat) : Int)
 omega
/-- The second row of a writer, as it stands while groups are put. -/
structure Groups (rs rs' : List Int) (pre : List Int) : Prop where
 len : rs'.length = 18
 fst : rs'.take 8 = rs.take 8
 snd : (rs'.drop 8).take pre.length = pre
theorem Groups.put {rs rs' pre : List Int} (h : Groups rs rs' pre) (hp : pre.length < 10) (v : Int) : Groups rs (rs'.set (8 + pre.length) v) (pre ++ [v]) := by
 obtain ⟨h1, h2, h3⟩ := h
 refine ⟨by simpa using h1, ?_, ?_⟩
 ·rw [List.take_set_of_le (by omega)]; exact h2
 ·have e : (rs'.set (8 + pre.length) v).drop 8 = (rs'.drop 8).set pre.length v := by rw [List.drop_set, if_neg (by omega)]; congr 1; omega
  rw [e, List.length_append, List.length_singleton]
  have hd : pre.length < (rs'.drop 8).length := by simp; omega
  generalize rs'.drop 8 = t at h3 hd
  rw [List.take_succ_eq_append_getElem (by simpa using hd), List.take_set_of_le (Nat.le_refl _), h3]
  simp
set_option maxHeartbeats 4000000 in
set_option maxRecDepth 100000 in
theorem putuv_calls (W : Nat) (i : Value) (buf : Int) (byo bto : Nat) (rs : List Int) (n : Nat) (w : World) (h : Bw w W i buf byo bto rs) (hn : n < 18446744073709551616) :
  Calls Tryz.prog 106 #[.slice (some ⟨W, 12, none⟩) 10 10, .int .u64 (n : Int)] w fun e w' => e = .returned (.int .i64 ((leb n).length : Int)) ∧ (∃ rs', Bw w' W i buf byo bto rs' ∧ (rs'.drop 8).take (leb n).length = leb n) ∧ Kept w w' (fun k => k = W) ∧ Below W w w' := by
 have HL := Aside0.mk (leb_len 10 n (by omega) (by omega)).2
 have H := Aside0.mk h
 have HN := Aside0.mk hn
 clear h hn
 go_enter Tryz.func106, Tryz.ntmps106
 go_wp2
 go_loopg [1, 5] 11 (fun kq v1 v5 w' => ∃ (x : Nat) (pre rs' : List Int), v1 = .int .u64 (x : Int) ∧ v5 = .int .i64 (pre.length : Int) ∧ Aside0 (pre.length + kq = 11) ∧ Aside0 (leb n = pre ++ leb x ∧ x ≤ n) ∧ Aside0 (Groups rs rs' pre ∧ Bw w' W i buf byo bto rs') ∧ Aside0 (Kept w w' (fun k => k = W)) ∧ Aside0 (Below W w w'))
 case atStart => exact ⟨n, [], rs, rfl, rfl, ⟨rfl⟩, ⟨by simp⟩, ⟨⟨H.out.2, rfl, rfl⟩, H.out⟩, ⟨Kept.refl _ _⟩, ⟨Below.refl _ _⟩⟩
 case round =>
  obtain ⟨x, pre, rs', rfl, rfl, HK, HX, HG, HE, HB⟩ := hrel
  have hp : pre.length < 10 := by
   have h1 := congrArg List.length HX.out.1
   have h2 := (leb_len 10 x (by have := HX.out.2; have := HN.out; omega) (by omega)).1
   have h3 := HL.out
   rw [List.length_append] at h1
   omega
  cases gk with
  | zero => exact absurd HK.out (by omega)
  | succ k1 =>
   have hg0 : (0 : Int) ≤ (pre.length : Int) := by omega
   have hg1 : (pre.length : Int) < 10 := by omega
   have hcell : wr.cell? ⟨W, 12 + pre.length, none⟩ = some (.int .u8 (rs'.getD (8 + pre.length) 0)) := by
    have := HG.out.2.cr (8 + pre.length) (by omega)
    rw [show 4 + (8 + pre.length) = 12 + pre.length by omega] at this
    exact this
   have hfz := HG.out.2.f (12 + pre.length)
   have hset : ∀ v, Bw (wr.setCell ⟨W, 12 + pre.length, none⟩ (.int .u8 v)) W i buf byo bto (rs'.set (8 + pre.length) v) := fun v => by
    have := HG.out.2.sr (8 + pre.length) v
    rw [show 4 + (8 + pre.length) = 12 + pre.length by omega] at this
    exact this
   have HS := Aside0.mk hset
   clear hset
   have hxb : x < 18446744073709551616 := by have := HX.out.2; have := HN.out; omega
   by_cases c : 128 ≤ x
   ·have hd : decide ((x : Int) ≥ 128) = true := decide_eq_true (by omega)
    have hw1 : IntKind.i64.wrap ((pre.length : Int) + 1) = ((pre.length + 1 : Nat) : Int) := by rw [IntKind.wrap_i64]; omega
    have hx8 : IntKind.u8.wrap (x : Int) = (x : Int) % 256 := by simp [IntKind.wrap, IntKind.bits, IntKind.signed]
    have ho := or128 x
    clear hxb
    go_wp2
    go_roundg k1
    case measure => have := HK.out; omega
    case rel =>
     have hx7 : (x : Int) / 128 = ((x / 128 : Nat) : Int) := by omega
     refine ⟨x / 128, pre ++ [((x % 128 + 128 : Nat) : Int)], rs'.set (8 + pre.length) ((x % 128 + 128 : Nat) : Int), by rw [hx7], by simp, ⟨by have := HK.out; simp; omega⟩, ⟨?_, ?_⟩, ⟨HG.out.1.put hp _, HS.out _⟩, ⟨HE.out.setCell (.inl rfl) _⟩, ⟨Below.setCell (p := ⟨W, 12 + pre.length, none⟩) HB.out (Nat.le_refl _) _⟩⟩
     ·rw [HX.out.1, leb_hi x (by omega)]; simp
     ·have := HX.out.2; omega
   ·have hd : decide ((x : Int) ≥ 128) = false := decide_eq_false (by omega)
    have hw1 : IntKind.i64.wrap ((pre.length : Int) + 1) = ((pre.length + 1 : Nat) : Int) := by rw [IntKind.wrap_i64]; omega
    have hx8 : IntKind.u8.wrap (x : Int) = (x : Int) := by simp [IntKind.wrap, IntKind.bits, IntKind.signed]; omega
    have hx9 : (x : Int) % 256 = (x : Int) := by omega
    have CC := Aside0.mk c
    clear hxb c
    go_wp2
    go_ret
    have e : leb n = pre ++ [(x : Int)] := by rw [HX.out.1, leb_lo x (by have := CC.out; omega)]
    have hl : (leb n).length = pre.length + 1 := by rw [e]; simp
    refine ⟨by rw [hl]; rfl, ⟨_, HS.out _, ?_⟩, HE.out.setCell (.inl rfl) _, Below.setCell (p := ⟨W, 12 + pre.length, none⟩) HB.out (Nat.le_refl _) _⟩
    have := (HG.out.1.put hp (x : Int)).snd
    rw [hl, e]
    simpa using this
end Go.Proofs.YtiieljnllgeoeaaGreat.Q
