/- The writer of runs, plainly. -/
import Derived.Test.YtiieljnllgeoeaaGreatPa
namespace Go.Proofs.YtiieljnllgeoeaaGreat.Q
set_option linter.unusedVariables false
set_option linter.unusedSimpArgs false
/-- The writer of runs: what is closed, the open run of packed numbers, what waits, the last number and how often it came. -/
structure RE where
 dn : List Int
 L : List Nat
 bf : List Nat
 cur : Nat
 rep : Nat
/-- A run's bytes: packed numbers, or a repeated one. -/
def pk (w : Nat) (l : List Nat) : List Int := ((l.length / 8 * 2 + 1 : Nat) : Int) :: toB (w * l.length / 8) (pack w l)
def rp (w c v : Nat) : List Int := leb (2 * c) ++ toB ((w + 7) / 8) v
def RE.shut (w : Nat) (e : RE) : RE := if e.L = [] then e else { e with dn := e.dn ++ pk w e.L, L := [] }
def RE.lit (e : RE) : RE := { e with L := e.L ++ e.bf, bf := [] }
def RE.full (w : Nat) (e : RE) : RE :=
 if 8 ≤ e.rep then ({ e with bf := [] } : RE).shut w
 else { (if 64 ≤ e.lit.L.length / 8 + 1 then e.lit.shut w else e.lit) with rep := 0 }
def RE.again (w : Nat) (e : RE) : RE := { e with dn := e.dn ++ rp w e.rep e.cur, rep := 0, bf := [] }
def RE.push (w : Nat) (e : RE) (v : Nat) : RE :=
 if (e.bf ++ [v]).length = 8 then ({ e with bf := e.bf ++ [v] } : RE).full w else { e with bf := e.bf ++ [v] }
def RE.put (w : Nat) (e : RE) (v : Nat) : RE :=
 if e.cur = v then (if 8 < e.rep + 1 then { e with rep := e.rep + 1 } else ({ e with rep := e.rep + 1 } : RE).push w v)
 else ({ (if 8 ≤ e.rep then e.again w else e) with rep := 1, cur := v } : RE).push w v
def pad8 (l : List Nat) : List Nat := if l = [] then [] else l ++ List.replicate (8 - l.length) 0
def RE.done (w : Nat) (e : RE) : RE :=
 if e.L = [] ∧ e.rep = 0 ∧ e.bf = [] then e
 else if 0 < e.rep ∧ e.L = [] ∧ (e.rep = e.bf.length ∨ e.bf = []) then e.again w
 else ({ e with bf := pad8 e.bf } : RE).lit.shut w
def RE.new : RE := ⟨[], [], [], 0, 0⟩
/-- Runs that stand in bytes. -/
inductive Runs (w : Nat) : List Int → List Nat → Prop
 | nil : Runs w [] []
 | packed {b : List Int} {V : List Nat} (l : List Nat) : Runs w b V → l.length % 8 = 0 → 0 < l.length → l.length ≤ 504 → (∀ x ∈ l, x < 2 ^ w) → Runs w (b ++ pk w l) (V ++ l)
 | again {b : List Int} {V : List Nat} (c v : Nat) : Runs w b V → 0 < c → v < 2 ^ w → Runs w (b ++ rp w c v) (V ++ List.replicate c v)
/-- What the writer's state says of the numbers that it was given. -/
structure Ok (w : Nat) (e : RE) (V : List Nat) : Prop where
 runs : ∃ V1, Runs w e.dn V1 ∧ (∀ x ∈ V, x < 2 ^ w) ∧ 8 * e.dn.length ≤ (1 + w) * V1.length ∧ e.L.length % 8 = 0 ∧ e.L.length < 504 ∧
  ((e.rep < 8 ∧ e.bf.length < 8 ∧ V = V1 ++ e.L ++ e.bf ∧ e.rep ≤ e.bf.length ∧ e.bf.drop (e.bf.length - e.rep) = List.replicate e.rep e.cur) ∨ (8 ≤ e.rep ∧ e.bf = [] ∧ e.L = [] ∧ V = V1 ++ List.replicate e.rep e.cur))
theorem pk_len (w : Nat) (l : List Nat) : (pk w l).length = 1 + w * l.length / 8 := by simp [pk, toB_len]; omega
theorem pk_len8 (w : Nat) (l : List Nat) (h : l.length % 8 = 0) : 8 * (pk w l).length = 8 + w * l.length := by
 rw [pk_len]
 have : w * l.length = 8 * (w * (l.length / 8)) := by
  rw [← Nat.mul_assoc, Nat.mul_comm 8 w, Nat.mul_assoc, show 8 * (l.length / 8) = l.length by omega]
 omega
theorem rp_len (w c v : Nat) (hw : 1 ≤ w) (hc : 8 ≤ c) (hb : c < 1048576) : 8 * (rp w c v).length ≤ (1 + w) * c := by
 unfold rp
 rw [List.length_append, toB_len]
 have hm : (1 + w) * c = c + w * c := by rw [Nat.add_mul, Nat.one_mul]
 rw [hm]
 by_cases q : c < 64
 ·have := (leb_len 1 (2 * c) (by omega) (by omega)).2
  have h8 : w * 8 ≤ w * c := Nat.mul_le_mul_left w hc
  omega
 ·have := (leb_len 3 (2 * c) (by omega) (by omega)).2
  have h8 : w * 64 ≤ w * c := Nat.mul_le_mul_left w (by omega)
  omega
theorem ok_shut {w : Nat} {e : RE} {V V1 : List Nat} (hr : Runs w e.dn V1) (hx : ∀ x ∈ e.L, x < 2 ^ w) (hb : 8 * e.dn.length ≤ (1 + w) * V1.length) (h8 : e.L.length % 8 = 0) (hl : e.L.length ≤ 504) :
  (e.shut w).L = [] ∧ (e.shut w).bf = e.bf ∧ (e.shut w).rep = e.rep ∧ (e.shut w).cur = e.cur ∧ Runs w (e.shut w).dn (V1 ++ e.L) ∧ 8 * (e.shut w).dn.length ≤ (1 + w) * (V1 ++ e.L).length := by
 unfold RE.shut
 by_cases c : e.L = []
 ·rw [if_pos c, c]; simpa using ⟨hr, hb⟩
 ·rw [if_neg c]
  have hp : 0 < e.L.length := List.length_pos_iff.2 c
  refine ⟨rfl, rfl, rfl, rfl, Runs.packed _ hr h8 hp hl hx, ?_⟩
  have := pk_len8 w e.L h8
  show 8 * (e.dn ++ pk w e.L).length ≤ _
  rw [List.length_append, List.length_append, Nat.mul_add, Nat.mul_add, this]
  have : (1 + w) * e.L.length = e.L.length + w * e.L.length := by rw [Nat.add_mul, Nat.one_mul]
  omega
theorem ok_push {w : Nat} (hw : 1 ≤ w) {e : RE} {V V1 : List Nat} (v : Nat) (hv : v < 2 ^ w) (hr : Runs w e.dn V1) (hx : ∀ x ∈ V, x < 2 ^ w) (hb : 8 * e.dn.length ≤ (1 + w) * V1.length) (h8 : e.L.length % 8 = 0) (hl : e.L.length < 504)
  (h1 : e.rep ≤ 8) (h2 : e.bf.length < 8) (h3 : V = V1 ++ e.L ++ e.bf) (h4 : e.rep ≤ e.bf.length + 1) (h5 : (e.bf ++ [v]).drop ((e.bf ++ [v]).length - e.rep) = List.replicate e.rep e.cur) (h6 : e.rep = 8 → e.bf.length = 7) : Ok w (e.push w v) (V ++ [v]) := by
 have hx2 : ∀ x ∈ V ++ [v], x < 2 ^ w := fun x hh => by
  rcases List.mem_append.1 hh with hh | hh
  ·exact hx x hh
  ·have : x = v := by simpa using hh
   subst this; exact hv
 have hlen : (e.bf ++ [v]).length = e.bf.length + 1 := by simp
 have hxL : ∀ x ∈ e.L, x < 2 ^ w := fun x hh => hx x (by rw [h3]; simp [hh])
 have hxb : ∀ x ∈ e.bf ++ [v], x < 2 ^ w := fun x hh => hx2 x (by
  rw [h3, List.append_assoc]
  exact List.mem_append_right _ hh)
 unfold RE.push
 by_cases c : (e.bf ++ [v]).length = 8
 ·rw [if_pos c]
  unfold RE.full
  by_cases d : 8 ≤ e.rep
  ·rw [if_pos d]
   have hrep : e.rep = 8 := by omega
   obtain ⟨g1, g2, g3, g4, g5, g6⟩ := ok_shut (w := w) (e := { e with bf := [] }) (V := []) hr hxL hb h8 (Nat.le_of_lt hl)
   have hall : e.bf ++ [v] = List.replicate 8 e.cur := by
    rw [← hrep, ← h5, c, hrep, Nat.sub_self, List.drop_zero]
   refine ⟨_, g5, hx2, g6, by rw [g1]; simp, by rw [g1]; simp, .inr ⟨by rw [g3]; exact d, g2, g1, ?_⟩⟩
   rw [g3, g4, h3, List.append_assoc _ e.bf, hall]
   show _ = V1 ++ e.L ++ List.replicate e.rep e.cur
   rw [hrep]
  ·rw [if_neg d]
   have hL8 : (e.L ++ (e.bf ++ [v])).length % 8 = 0 := by rw [List.length_append, c]; omega
   have hLx : ∀ x ∈ e.L ++ (e.bf ++ [v]), x < 2 ^ w := fun x hh => by
    rcases List.mem_append.1 hh with hh | hh
    ·exact hxL x hh
    ·exact hxb x hh
   have hV : V ++ [v] = V1 ++ (e.L ++ (e.bf ++ [v])) := by rw [h3]; simp
   by_cases f : 64 ≤ (e.L ++ (e.bf ++ [v])).length / 8 + 1
   ·have hif : (if 64 ≤ ({ e with bf := e.bf ++ [v] } : RE).lit.L.length / 8 + 1 then RE.shut w ({ e with bf := e.bf ++ [v] } : RE).lit else ({ e with bf := e.bf ++ [v] } : RE).lit) = RE.shut w ({ e with bf := e.bf ++ [v] } : RE).lit := if_pos f
    rw [hif]
    obtain ⟨g1, g2, g3, g4, g5, g6⟩ := ok_shut (w := w) (e := ({ e with bf := e.bf ++ [v] } : RE).lit) (V := []) hr hLx hb hL8 (by show (e.L ++ (e.bf ++ [v])).length ≤ 504; rw [List.length_append, c]; omega)
    refine ⟨_, g5, hx2, g6, by show (RE.shut w _).L.length % 8 = 0; rw [g1]; simp, by show (RE.shut w _).L.length < 504; rw [g1]; simp, .inl ⟨by show (0 : Nat) < 8; omega, ?_, ?_, Nat.zero_le _, ?_⟩⟩
    ·show (RE.shut w _).bf.length < 8
     rw [g2]; show ([] : List Nat).length < 8; simp
    ·show V ++ [v] = _ ++ (RE.shut w _).L ++ (RE.shut w _).bf
     rw [g1, g2, hV]
     show _ = V1 ++ (e.L ++ (e.bf ++ [v])) ++ [] ++ []
     simp
    ·show List.drop ((RE.shut w _).bf.length - 0) (RE.shut w _).bf = _
     simp
   ·have hif : (if 64 ≤ ({ e with bf := e.bf ++ [v] } : RE).lit.L.length / 8 + 1 then RE.shut w ({ e with bf := e.bf ++ [v] } : RE).lit else ({ e with bf := e.bf ++ [v] } : RE).lit) = ({ e with bf := e.bf ++ [v] } : RE).lit := if_neg f
    rw [hif]
    refine ⟨V1, hr, hx2, hb, hL8, by show (e.L ++ (e.bf ++ [v])).length < 504; omega, .inl ⟨by show (0 : Nat) < 8; omega, by show ([] : List Nat).length < 8; simp, ?_, Nat.zero_le _, by show List.drop _ ([] : List Nat) = _; simp⟩⟩
    rw [hV]
    show _ = V1 ++ (e.L ++ (e.bf ++ [v])) ++ []
    simp
 ·rw [if_neg c]
  refine ⟨V1, hr, hx2, hb, h8, hl, .inl ⟨?_, by show (e.bf ++ [v]).length < 8; omega, by rw [h3]; simp, by show e.rep ≤ (e.bf ++ [v]).length; omega, h5⟩⟩
  show e.rep < 8
  rcases Nat.lt_or_ge e.rep 8 with q | q
  ·exact q
  ·have := h6 (by omega)
   omega
theorem ok_put {w : Nat} (hw : 1 ≤ w) {e : RE} {V : List Nat} (h : Ok w e V) (v : Nat) (hv : v < 2 ^ w) (hn : V.length < 1000000) : Ok w (e.put w v) (V ++ [v]) := by
 obtain ⟨V1, hr, hx, hb, h8, hl, hc⟩ := h.runs
 unfold RE.put
 by_cases c : e.cur = v
 ·rw [if_pos c]
  rcases hc with ⟨a1, a2, a3, a4, a5⟩ | ⟨a1, a2, a3, a4⟩
  ·rw [if_neg (by omega)]
   refine ok_push (w := w) hw (e := { e with rep := e.rep + 1 }) (V := V) v hv hr hx hb h8 hl (by show e.rep + 1 ≤ 8; omega) a2 a3 (by show e.rep + 1 ≤ e.bf.length + 1; omega) ?_ (fun q => by have q : e.rep + 1 = 8 := q; show e.bf.length = 7; omega)
   show (e.bf ++ [v]).drop ((e.bf ++ [v]).length - (e.rep + 1)) = List.replicate (e.rep + 1) e.cur
   rw [List.length_append, show e.bf.length + [v].length - (e.rep + 1) = e.bf.length - e.rep by simp, List.drop_append_of_le_length (by omega), a5, List.replicate_succ', c]
  ·rw [if_pos (by omega)]
   have hx2 : ∀ x ∈ V ++ [v], x < 2 ^ w := fun x hh => by
    rcases List.mem_append.1 hh with hh | hh
    ·exact hx x hh
    ·have : x = v := by simpa using hh
     subst this; exact hv
   refine ⟨V1, hr, hx2, hb, h8, hl, .inr ⟨by show 8 ≤ e.rep + 1; omega, a2, a3, ?_⟩⟩
   show V ++ [v] = V1 ++ List.replicate (e.rep + 1) e.cur
   rw [a4, List.replicate_succ', c, List.append_assoc]
 ·rw [if_neg c]
  rcases hc with ⟨a1, a2, a3, a4, a5⟩ | ⟨a1, a2, a3, a4⟩
  ·rw [if_neg (by omega)]
   refine ok_push (w := w) hw (e := { e with rep := 1, cur := v }) (V := V) v hv hr hx hb h8 hl (by show 1 ≤ 8; omega) a2 a3 (by show 1 ≤ e.bf.length + 1; omega) ?_ (fun q => by have q : 1 = 8 := q; omega)
   show (e.bf ++ [v]).drop ((e.bf ++ [v]).length - 1) = List.replicate 1 v
   rw [List.length_append, show e.bf.length + [v].length - 1 = e.bf.length by simp, List.drop_left]
   rfl
  ·rw [if_pos a1]
   have hcx : e.cur < 2 ^ w := hx _ (by rw [a4]; exact List.mem_append_right _ (List.mem_replicate.2 ⟨by omega, rfl⟩))
   have hlenV : e.rep ≤ V.length := by rw [a4]; simp
   refine ok_push (w := w) hw (e := { e.again w with rep := 1, cur := v }) (V := V) (V1 := V1 ++ List.replicate e.rep e.cur) v hv (Runs.again _ _ hr (by omega) hcx) hx ?_ h8 hl (by show 1 ≤ 8; omega) (by show ([] : List Nat).length < 8; simp) ?_ (by show 1 ≤ ([] : List Nat).length + 1; simp) ?_ (fun q => by have q : 1 = 8 := q; omega)
   ·show 8 * (e.dn ++ rp w e.rep e.cur).length ≤ _
    have := rp_len w e.rep e.cur hw a1 (by omega)
    rw [List.length_append, List.length_append, Nat.mul_add, Nat.mul_add, List.length_replicate]
    omega
   ·show V = _ ++ e.L ++ []
    rw [a3, a4]; simp
   ·show ([] ++ [v] : List Nat).drop (([] ++ [v] : List Nat).length - 1) = List.replicate 1 v
    rfl
theorem ok_new (w : Nat) : Ok w RE.new [] := ⟨[], Runs.nil, by simp, by simp [RE.new], by simp [RE.new], by simp [RE.new], .inl ⟨by simp [RE.new], by simp [RE.new], by simp [RE.new], by simp [RE.new], by simp [RE.new]⟩⟩
/-- What is written at the end: runs of the numbers, with zeros behind them. -/
theorem ok_done {w : Nat} (hw : 1 ≤ w) {e : RE} {V : List Nat} (h : Ok w e V) (hn : V.length < 1000000) : ∃ z, Runs w (e.done w).dn (V ++ List.replicate z 0) ∧ 8 * (e.done w).dn.length ≤ (1 + w) * (V.length + 8) := by
 obtain ⟨V1, hr, hx, hb, h8, hl, hc⟩ := h.runs
 unfold RE.done
 have hmul : ∀ a b : Nat, a ≤ b → (1 + w) * a ≤ (1 + w) * b := fun a b q => Nat.mul_le_mul_left _ q
 by_cases c : e.L = [] ∧ e.rep = 0 ∧ e.bf = []
 ·rw [if_pos c]
  obtain ⟨c1, c2, c3⟩ := c
  rcases hc with ⟨a1, a2, a3, a4, a5⟩ | ⟨a1, _⟩
  ·rw [c1, c3] at a3
   have : V = V1 := by simpa using a3
   subst this
   exact ⟨0, by simpa using hr, Nat.le_trans hb (hmul _ _ (by omega))⟩
  ·omega
 ·rw [if_neg c]
  by_cases d : 0 < e.rep ∧ e.L = [] ∧ (e.rep = e.bf.length ∨ e.bf = [])
  ·rw [if_pos d]
   obtain ⟨d1, d2, d3⟩ := d
   have hV : V = V1 ++ List.replicate e.rep e.cur := by
    rcases hc with ⟨a1, a2, a3, a4, a5⟩ | ⟨a1, a2, a3, a4⟩
    ·have hrb : e.rep = e.bf.length := by
      rcases d3 with q | q
      ·exact q
      ·rw [q] at a4; simp at a4; omega
     rw [hrb, Nat.sub_self, List.drop_zero, ← hrb] at a5
     rw [a3, d2, ← a5]; simp
    ·exact a4
   have hcx : e.cur < 2 ^ w := hx _ (by rw [hV]; exact List.mem_append_right _ (List.mem_replicate.2 ⟨by omega, rfl⟩))
   refine ⟨0, ?_, ?_⟩
   ·rw [List.replicate_zero, List.append_nil, hV]
    exact Runs.again _ _ hr d1 hcx
   ·show 8 * (e.dn ++ rp w e.rep e.cur).length ≤ _
    have hlV : V.length = V1.length + e.rep := by rw [hV]; simp
    rw [List.length_append, Nat.mul_add]
    by_cases q : 8 ≤ e.rep
    ·have := rp_len w e.rep e.cur hw q (by omega)
     have h2 := hmul (V1.length + e.rep) (V.length + 8) (by omega)
     rw [Nat.mul_add] at h2
     omega
    ·have hlb := (leb_len 1 (2 * e.rep) (by omega) (by omega)).2
     have h2 := hmul (V1.length + 8) (V.length + 8) (by omega)
     rw [Nat.mul_add (1 + w) V1.length] at h2
     unfold rp
     rw [List.length_append, toB_len]
     omega
  ·rw [if_neg d]
   rcases hc with ⟨a1, a2, a3, a4, a5⟩ | ⟨a1, a2, a3, a4⟩
   ·obtain ⟨z, hz, hz8⟩ : ∃ z, pad8 e.bf = e.bf ++ List.replicate z 0 ∧ (pad8 e.bf).length % 8 = 0 ∧ (pad8 e.bf).length ≤ 8 := by
     unfold pad8
     by_cases q : e.bf = []
     ·exact ⟨0, by rw [if_pos q, q]; simp, by rw [if_pos q]; simp⟩
     ·refine ⟨8 - e.bf.length, by rw [if_neg q], ?_⟩
      rw [if_neg q, List.length_append, List.length_replicate]
      omega
    have hVz : V ++ List.replicate z 0 = V1 ++ (e.L ++ pad8 e.bf) := by rw [hz, a3]; simp
    obtain ⟨g1, g2, g3, g4, g5, g6⟩ := ok_shut (w := w) (e := ({ e with bf := pad8 e.bf } : RE).lit) (V := []) (V1 := V1) hr (fun x hh => by
     have hh : x ∈ e.L ++ pad8 e.bf := hh
     have : x ∈ V ++ List.replicate z 0 := by rw [hVz]; exact List.mem_append_right _ hh
     rcases List.mem_append.1 this with q | q
     ·exact hx x q
     ·rw [(List.mem_replicate.1 q).2]; exact Nat.two_pow_pos w) hb (by show (e.L ++ pad8 e.bf).length % 8 = 0; rw [List.length_append]; omega) (by show (e.L ++ pad8 e.bf).length ≤ 504; rw [List.length_append]; omega)
    refine ⟨z, by rw [hVz]; exact g5, Nat.le_trans g6 (hmul _ _ ?_)⟩
    show (V1 ++ (e.L ++ pad8 e.bf)).length ≤ _
    rw [a3]
    simp only [List.length_append]
    omega
   ·exact absurd ⟨by omega, a3, .inr a2⟩ d
end Go.Proofs.YtiieljnllgeoeaaGreat.Q
