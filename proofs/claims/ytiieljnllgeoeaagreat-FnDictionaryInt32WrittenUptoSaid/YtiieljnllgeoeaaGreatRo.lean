/- The reading of '[][]impl.Value', opened: what the law's walk reads, and how long it is. -/
import Derived.Test.YtiieljnllgeoeaaGreatQ0
import Derived.Test.YtiieljnllgeoeaaGreatRows
import Derived.ProofKit
import Derived.OpenShut
import Derived.JoinedCond
import Derived.Deep.Slices
namespace Go.Proofs.YtiieljnllgeoeaaGreat.Q
open Go.ChangeShapes Go.WideShapes Go.Deep
open Go.RowKit Go.Proofs.YtiieljnllgeoeaaGreatW.PrintWords Go.Proofs.YtiieljnllgeoeaaGreatW.PrintLast Go.Proofs.YtiieljnllgeoeaaGreatW.PrintMore
set_option linter.unusedVariables false
set_option linter.unusedSimpArgs false

/-- A value's number is one of 64 bits. -/
def Ranged (y : S29) : Prop := 0 ≤ y.f1 ∧ y.f1 < 18446744073709551616

theorem one_le {H : Type} (d : DataW H) : 1 ≤ Rows.uptoBulk d := by
 cases d with
 | lit l => cases l <;> simp [Rows.uptoBulk]
 | nil => simp [Rows.uptoBulk]
 | ptr d => simp [Rows.uptoBulk]
 | slice elems spare => simp [Rows.uptoBulk]
 | agg parts => simp [Rows.uptoBulk]
 | iface t d => simp [Rows.uptoBulk]
 | map entries => simp [Rows.uptoBulk]
 | held h => simp [Rows.uptoBulk]
theorem bulk_length {H : Type} (l : List (DataW H)) : l.length ≤ Rows.uptoBulkAll l := by
 induction l with
 | nil => simp [Rows.uptoBulkAll]
 | cons x r ih => have := one_le x; simp only [Rows.uptoBulkAll, List.length_cons]; omega

section
variable {H : Type} {enc : TypeId × Value → H} {w : World} {base : Nat} {sp : Nat → Bool} {held : Bool}
theorem slice_C {α : Type} (d : Kd α) {a : Addr} {len : Nat} {ys : List α} (hl : ys.length = len) (hm : len ≤ maxLen) (h : ∀ i y, ys[i]? = some y → ∃ cs', w.cells? base (a.add (i * d.sz)) d.sz = some cs' ∧ d.K w y cs') : d.C w (some a) len ys := by
 refine ⟨hl, by simpa [maxLen] using hm, fun _ => ⟨a, rfl, fun j p hj => ?_⟩⟩
 obtain ⟨cs', h1, h2⟩ := h j p hj
 obtain ⟨_, hlen, hcell⟩ := World.cells?_some h1
 refine ⟨cs', hlen, h2, fun i u hu => ?_⟩
 have hi : i < d.sz := by
  have := (List.getElem?_eq_some_iff.1 hu).1
  omega
 have e0 := hcell i hi
 rw [Go.Proofs.YtiieljnllgeoeaaGreatW.PrintWords.add_add] at e0
 rw [e0, hu]

/-- A slice of elements, each of which opens. -/
theorem open_rows {α : Type} (d : Kd α) (G : α → DataW H → Prop) {t e : TypeId} (ht : Tryz.prog.underlying t = some (.slice e)) (hsz : Tryz.prog.cellsOf e = d.sz) {fuel : Nat} {cs : List Value} {x : DataW H × List MemPlace}
  (ih : ∀ n, fuel = n + 1 → ∀ cs' x', DataW.trod enc Tryz.prog w base sp held n e cs' = some x' → ∃ y, d.K w y cs' ∧ G y x'.1)
  (h : DataW.trod enc Tryz.prog w base sp held fuel t cs = some x) :
  ∃ (A : Option Addr) (c : Nat) (l : List α), cs = [.slice A l.length c] ∧ l.length ≤ c ∧ d.C w A l.length l ∧ (x.1 = .nil ∧ l = [] ∨ ∃ es rs : List (DataW H), x.1 = .slice es rs ∧ es.length = l.length ∧ ∀ (i : Nat) (y : α), l[i]? = some y → ∃ z : DataW H, es[i]? = some z ∧ G y z) := by
 rcases DataW.trod_slice ht h with ⟨rfl, rfl⟩ | ⟨a, len, cap, elems, rest, n, hf, rfl, rfl, hb, hl, hm, hlen, hel, hsp, hns⟩
 ·exact ⟨none, 0, [], rfl, Nat.le_refl _, Kd.C_nil d w, .inl ⟨rfl, rfl⟩⟩
 ·have each : ∀ i, i < len → ∃ q : α × DataW H, ∃ cs' x', w.cells? base (a.add (i * d.sz)) d.sz = some cs' ∧ d.K w q.1 cs' ∧ elems[i]? = some x' ∧ x'.1 = q.2 ∧ G q.1 q.2 := by
   intro i hi
   have h1 := hel i hi
   rw [List.getElem?_eq_getElem (by omega)] at h1
   obtain ⟨cs', g1, g2⟩ := Option.bind_eq_some_iff.1 h1
   obtain ⟨y, hy, hg⟩ := ih n hf cs' _ g2
   rw [hsz] at g1
   exact ⟨(y, (elems[i]'(by omega)).1), cs', _, g1, hy, List.getElem?_eq_getElem (by omega), rfl, hg⟩
  by_cases h0 : len = 0
  ·subst h0
   exact ⟨some a, cap, [], rfl, Nat.zero_le _, ⟨rfl, Nat.zero_le _, fun h => absurd h (Nat.lt_irrefl 0)⟩, .inr ⟨elems.map (·.1), rest.map (·.1), rfl, by simp [hlen], fun i y hy => by simp at hy⟩⟩
  obtain ⟨q, hq⟩ : ∃ q : Nat → α × DataW H, ∀ i, i < len → ∃ cs' x', w.cells? base (a.add (i * d.sz)) d.sz = some cs' ∧ d.K w (q i).1 cs' ∧ elems[i]? = some x' ∧ x'.1 = (q i).2 ∧ G (q i).1 (q i).2 := by
   classical
   obtain ⟨q0, _⟩ := each 0 (by omega)
   refine ⟨fun i => if h : i < len then Classical.choose (each i h) else q0, fun i hi => ?_⟩
   simp only [dif_pos hi]
   exact Classical.choose_spec (each i hi)
  have hll : ((List.range len).map fun i => (q i).1).length = len := by simp
  refine ⟨some a, cap, (List.range len).map fun i => (q i).1, by rw [hll], by rw [hll]; exact hl, ?_, .inr ⟨elems.map (·.1), rest.map (·.1), rfl, by simp [hlen], ?_⟩⟩
  ·rw [hll]
   refine slice_C (base := base) d hll (Nat.le_trans hl hm) ?_
   intro i y hy
   have hi : i < len := by have := (List.getElem?_eq_some_iff.1 hy).1; simpa using this
   obtain ⟨cs', x', g1, g2, _⟩ := hq i hi
   have e : y = (q i).1 := by simp [hi] at hy; exact hy.symm
   subst e
   exact ⟨cs', g1, g2⟩
  ·intro i y hy
   have hi : i < len := by have := (List.getElem?_eq_some_iff.1 hy).1; simpa using this
   obtain ⟨cs', x', g1, g2, g3, g4, g5⟩ := hq i hi
   have e : y = (q i).1 := by simp [hi] at hy; exact hy.symm
   subst e
   exact ⟨(q i).2, by rw [List.getElem?_map, g3]; simp [g4], g5⟩

set_option maxRecDepth 100000 in
/-- A value, and its children. -/
theorem open_both : ∀ n : Nat,
  (∀ cs x, DataW.trod enc Tryz.prog w base sp held n 29 cs = some x → ∃ y : S29, k29.K w y cs ∧ Ranged y) ∧
  (∀ cs x, DataW.trod enc Tryz.prog w base sp held n 27 cs = some x → ∃ (A : Option Addr) (c : Nat) (l : List S29), cs = [.slice A l.length c] ∧ l.length ≤ c ∧ k29.C w A l.length l ∧ (∀ y ∈ l, Ranged y) ∧ l.length ≤ Rows.uptoBulk x.1) := by
 intro n
 induction n using Nat.strongRecOn with
 | _ n ih =>
  constructor
  ·intro cs x h
   obtain ⟨xs, k, rfl, rfl, hcl, hxl, hf⟩ := DataW.trod_struct Tryz.underlying29 h
   have c29 : Tryz.prog.cellsOf 29 = 4 := by kernel_rfl
   have t4 : Tryz.prog.cellsOf 4 = 1 := by kernel_rfl
   have t26 : Tryz.prog.cellsOf 26 = 1 := by kernel_rfl
   have t9 : Tryz.prog.cellsOf 9 = 1 := by kernel_rfl
   have t27 : Tryz.prog.cellsOf 27 = 1 := by kernel_rfl
   rw [c29] at hcl
   match xs, hxl, cs, hcl with
   | [y0, y1, y2, y3], _, [v0, v1, v2, v3], _ =>
    have g0 := hf 0 _ rfl
    have g1 := hf 1 _ rfl
    have g2 := hf 2 _ rfl
    have g3 := hf 3 _ rfl
    simp [t4, t26, t9, t27] at g0 g1 g2 g3
    obtain ⟨b, e0, _⟩ := DataW.trod_bool Tryz.underlying4 g0
    obtain ⟨m, e1, _, hw⟩ := DataW.trod_int Tryz.underlying26 g1
    obtain ⟨s, e2, _⟩ := DataW.trod_string Tryz.underlying9 g2
    obtain ⟨A, c, l, e3, hlc, hC, _⟩ := (ih k (Nat.lt_succ_self k)).2 _ _ g3
    simp only [List.cons.injEq, and_true] at e0 e1 e2 e3
    subst e0; subst e1; subst e2; subst e3
    refine ⟨⟨b, m, s, l⟩, k29_mk w ⟨b, m, s, l⟩ hlc hC, ?_⟩
    have : 0 ≤ m ∧ m ≤ 18446744073709551615 := by simpa [Lit.wf, IntKind.min, IntKind.max, IntKind.signed, IntKind.bits] using hw
    exact ⟨this.1, by show m < _; omega⟩
  ·intro cs x h
   have hs : Tryz.prog.cellsOf 29 = k29.sz := by kernel_rfl
   obtain ⟨A, c, l, e, h1, h2, h3⟩ := open_rows (enc := enc) (base := base) (sp := sp) (held := held) k29 (fun y _ => Ranged y) Tryz.underlying27 hs (fun k hk cs' x' h' => (ih k (by omega)).1 cs' x' h') h
   refine ⟨A, c, l, e, h1, h2, ?_, ?_⟩
   ·intro y hy
    obtain ⟨i, hi⟩ := List.getElem?_of_mem hy
    rcases h3 with ⟨_, rfl⟩ | ⟨es, rs, _, _, h4⟩
    ·cases hy
    ·obtain ⟨z, _, hz⟩ := h4 i y hi
     exact hz
   ·rcases h3 with ⟨e0, rfl⟩ | ⟨es, rs, e0, el, _⟩
    ·exact Nat.zero_le _
    ·rw [e0]
     have := bulk_length es
     simp only [Rows.uptoBulk]
     omega
set_option maxRecDepth 100000 in
/-- The parts. -/
theorem open_parts (n : Nat) (cs : List Value) (x : DataW H × List MemPlace) (h : DataW.trod enc Tryz.prog w base sp held n 22 cs = some x) :
  ∃ (A : Option Addr) (c : Nat) (l : List (List S29)), cs = [.slice A l.length c] ∧ l.length ≤ c ∧ (Kd.slice 29 k29).C w A l.length l ∧ (∀ p ∈ l, ∀ y ∈ p, Ranged y) ∧ l.length ≤ Rows.uptoBulk x.1 ∧ l.flatten.length ≤ Rows.uptoBulk x.1 := by
 obtain ⟨A, c, l, e, h1, h2, h3⟩ := open_rows (enc := enc) (base := base) (sp := sp) (held := held) (Kd.slice 29 k29) (fun p d => (∀ y ∈ p, Ranged y) ∧ p.length ≤ Rows.uptoBulk d) Tryz.underlying22 (by kernel_rfl)
  (fun k hk cs' x' h' => by
   obtain ⟨A, c, l, e, g1, g2, g3, g4⟩ := (open_both (enc := enc) (w := w) (base := base) (sp := sp) (held := held) k).2 cs' x' h'
   exact ⟨l, ⟨A, c, e, g1, g2⟩, g3, g4⟩) h
 refine ⟨A, c, l, e, h1, h2, ?_, ?_, ?_⟩
 ·intro p hp
  obtain ⟨i, hi⟩ := List.getElem?_of_mem hp
  rcases h3 with ⟨_, rfl⟩ | ⟨es, rs, _, _, h4⟩
  ·cases hp
  ·obtain ⟨z, _, hz, _⟩ := h4 i p hi
   exact hz
 ·rcases h3 with ⟨e0, rfl⟩ | ⟨es, rs, e0, el, _⟩
  ·exact Nat.zero_le _
  ·rw [e0]
   have := bulk_length es
   simp only [Rows.uptoBulk]
   omega
 ·rcases h3 with ⟨e0, rfl⟩ | ⟨es, rs, e0, el, h4⟩
  ·exact Nat.zero_le _
  ·rw [e0]
   have key : ∀ (l : List (List S29)) (es : List (DataW H)), es.length = l.length → (∀ (i : Nat) (p : List S29), l[i]? = some p → ∃ z : DataW H, es[i]? = some z ∧ p.length ≤ Rows.uptoBulk z) → l.flatten.length ≤ Rows.uptoBulkAll es := by
    intro l
    induction l with
    | nil => intro es _ _; simp
    | cons p r ihl =>
     intro es hel hh
     cases es with
     | nil => simp at hel
     | cons z zs =>
      have h0 := hh 0 p rfl
      obtain ⟨z', hz, hp⟩ := h0
      simp at hz
      subst hz
      have := ihl zs (by simpa using hel) (fun i q hq => hh (i + 1) q hq)
      simp only [Rows.uptoBulkAll, List.flatten_cons, List.length_append]
      omega
   have := key l es el (fun i p hp => by obtain ⟨z, g1, g2⟩ := h4 i p hp; exact ⟨z, g1, g2.2⟩)
   simp only [Rows.uptoBulk]
   omega
end
end Go.Proofs.YtiieljnllgeoeaaGreat.Q
