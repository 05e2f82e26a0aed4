/- The reading of '[]impl.Value', opened: what the law's walk reads, and how long it is. -/
import Derived.Test.YtndbeeboehekaaaGreatDoorQ0
import Derived.Test.YtndbeeboehekaaaGreatDoorRows
import Derived.ProofKit
import Derived.OpenShut
import Derived.JoinedCond
import Derived.Deep.Slices
namespace Go.Proofs.YtndbeeboehekaaaGreatDoor.Q
open Go.ChangeShapes Go.WideShapes Go.Deep
open Go.RowKit Go.Proofs.YtndbeeboehekaaaGreatDoorW.PrintWords Go.Proofs.YtndbeeboehekaaaGreatDoorW.PrintLast Go.Proofs.YtndbeeboehekaaaGreatDoorW.PrintMore
set_option linter.unusedVariables false
set_option linter.unusedSimpArgs false

section
variable {H : Type} {enc : TypeId × Value → H} {w : World} {base : Nat} {sp : Nat → Bool} {held : Bool}
theorem slice_C {α : Type} (d : Kd α) {a : Addr} {len : Nat} {ys : List α} (hl : ys.length = len) (hm : len ≤ maxLen) (h : ∀ i y, ys[i]? = some y → ∃ cs', w.cells? base (a.add (i * d.sz)) d.sz = some cs' ∧ d.K w y cs') : d.C w (some a) len ys := by
  refine ⟨hl, by simpa [maxLen] using hm, fun _ => ⟨a, rfl, fun j p hj => ?_⟩⟩
  obtain ⟨cs', h1, h2⟩ := h j p hj
  obtain ⟨_, hlen, hcell⟩ := World.cells?_some h1
  refine ⟨cs', hlen, h2, fun i u hu => ?_⟩
  have hi : i < d.sz := by
    have := (List.getElem?_eq_some_iff.1 hu).1
    omega
  have e0 := hcell i hi
  rw [Go.Proofs.YtndbeeboehekaaaGreatDoorW.PrintWords.add_add] at e0
  rw [e0, hu]

/-- A slice of elements, each of which opens. -/
theorem open_rows {α : Type} (d : Kd α) (G : α → DataW H → Prop) {t e : TypeId} (ht : Tryz.prog.underlying t = some (.slice e)) (hsz : Tryz.prog.cellsOf e = d.sz) {fuel : Nat} {cs : List Value} {x : DataW H × List MemPlace}
    (ih : ∀ n, fuel = n + 1 → ∀ cs' x', DataW.trod enc Tryz.prog w base sp held n e cs' = some x' → ∃ y, d.K w y cs' ∧ G y x'.1)
    (h : DataW.trod enc Tryz.prog w base sp held fuel t cs = some x) :
    ∃ (A : Option Addr) (c : Nat) (l : List α), cs = [.slice A l.length c] ∧ l.length ≤ c ∧ d.C w A l.length l ∧ (x.1 = .nil ∧ l = [] ∨ ∃ es rs : List (DataW H), x.1 = .slice es rs ∧ es.length = l.length ∧ ∀ (i : Nat) (y : α), l[i]? = some y → ∃ z : DataW H, es[i]? = some z ∧ G y z) := by
  rcases DataW.trod_slice ht h with ⟨rfl, rfl⟩ | ⟨a, len, cap, elems, rest, n, hf, rfl, rfl, hb, hl, hm, hlen, hel, hsp, hns⟩
  · exact ⟨none, 0, [], rfl, Nat.le_refl _, Kd.C_nil d w, .inl ⟨rfl, rfl⟩⟩
  · have each : ∀ i, i < len → ∃ q : α × DataW H, ∃ cs' x', w.cells? base (a.add (i * d.sz)) d.sz = some cs' ∧ d.K w q.1 cs' ∧ elems[i]? = some x' ∧ x'.1 = q.2 ∧ G q.1 q.2 := by
      intro i hi
      have h1 := hel i hi
      rw [List.getElem?_eq_getElem (by omega)] at h1
      obtain ⟨cs', g1, g2⟩ := Option.bind_eq_some_iff.1 h1
      obtain ⟨y, hy, hg⟩ := ih n hf cs' _ g2
      rw [hsz] at g1
      exact ⟨(y, (elems[i]'(by omega)).1), cs', _, g1, hy, List.getElem?_eq_getElem (by omega), rfl, hg⟩
    by_cases h0 : len = 0
    · subst h0
      exact ⟨some a, cap, [], rfl, Nat.zero_le _, ⟨rfl, Nat.zero_le _, fun h => absurd h (Nat.lt_irrefl 0)⟩, .inr ⟨elems.map (·.1), rest.map (·.1), rfl, by simp [hlen], fun i y hy => by simp at hy⟩⟩
    obtain ⟨q, hq⟩ : ∃ q : Nat → α × DataW H, ∀ i, i < len → ∃ cs' x', w.cells? base (a.add (i * d.sz)) d.sz = some cs' ∧ d.K w (q i).1 cs' ∧ elems[i]? = some x' ∧ x'.1 = (q i).2 ∧ G (q i).1 (q i).2 := by
      classical
      obtain ⟨q0, _⟩ := each 0 (by omega)
      refine ⟨fun i => if h : i < len then Classical.choose (each i h) else q0, fun i hi => ?_⟩
      simp only [dif_pos hi]
      exact Classical.choose_spec (each i hi)
    have hll : ((List.range len).map fun i => (q i).1).length = len := by simp
    refine ⟨some a, cap, (List.range len).map fun i => (q i).1, by rw [hll], by rw [hll]; exact hl, ?_, .inr ⟨elems.map (·.1), rest.map (·.1), rfl, by simp [hlen], ?_⟩⟩
    · rw [hll]
      refine slice_C (base := base) d hll (Nat.le_trans hl hm) ?_
      intro i y hy
      have hi : i < len := by have := (List.getElem?_eq_some_iff.1 hy).1; simpa using this
      obtain ⟨cs', x', g1, g2, _⟩ := hq i hi
      have e : y = (q i).1 := by simp [hi] at hy; exact hy.symm
      subst e
      exact ⟨cs', g1, g2⟩
    · intro i y hy
      have hi : i < len := by have := (List.getElem?_eq_some_iff.1 hy).1; simpa using this
      obtain ⟨cs', x', g1, g2, g3, g4, g5⟩ := hq i hi
      have e : y = (q i).1 := by simp [hi] at hy; exact hy.symm
      subst e
      exact ⟨(q i).2, by rw [List.getElem?_map, g3]; simp [g4], g5⟩

set_option maxRecDepth 100000 in
/-- A value, and its children. -/
theorem open_both : ∀ n : Nat,
    (∀ cs x, DataW.trod enc Tryz.prog w base sp held n 25 cs = some x → ∃ y : S25, k25.K w y cs) ∧
    (∀ cs x, DataW.trod enc Tryz.prog w base sp held n 22 cs = some x → ∃ (A : Option Addr) (c : Nat) (l : List S25), cs = [.slice A l.length c] ∧ l.length ≤ c ∧ k25.C w A l.length l) := by
  intro n
  induction n using Nat.strongRecOn with
  | _ n ih =>
    constructor
    · intro cs x h
      obtain ⟨xs, k, rfl, rfl, hcl, hxl, hf⟩ := DataW.trod_struct Tryz.underlying25 h
      have c25 : Tryz.prog.cellsOf 25 = 4 := by kernel_rfl
      have t4 : Tryz.prog.cellsOf 4 = 1 := by kernel_rfl
      have t23 : Tryz.prog.cellsOf 23 = 1 := by kernel_rfl
      have t9 : Tryz.prog.cellsOf 9 = 1 := by kernel_rfl
      have t22 : Tryz.prog.cellsOf 22 = 1 := by kernel_rfl
      rw [c25] at hcl
      match xs, hxl, cs, hcl with
      | [y0, y1, y2, y3], _, [v0, v1, v2, v3], _ =>
        have g0 := hf 0 _ rfl
        have g1 := hf 1 _ rfl
        have g2 := hf 2 _ rfl
        have g3 := hf 3 _ rfl
        simp [t4, t23, t9, t22] at g0 g1 g2 g3
        obtain ⟨b, e0, _⟩ := DataW.trod_bool Tryz.underlying4 g0
        obtain ⟨m, e1, _, hw⟩ := DataW.trod_int Tryz.underlying23 g1
        obtain ⟨s, e2, _⟩ := DataW.trod_string Tryz.underlying9 g2
        obtain ⟨A, c, l, e3, hlc, hC⟩ := (ih k (Nat.lt_succ_self k)).2 _ _ g3
        simp only [List.cons.injEq, and_true] at e0 e1 e2 e3
        subst e0; subst e1; subst e2; subst e3
        exact ⟨⟨b, m, s, l⟩, k25_mk w ⟨b, m, s, l⟩ hlc hC⟩
    · intro cs x h
      have hs : Tryz.prog.cellsOf 25 = k25.sz := by kernel_rfl
      obtain ⟨A, c, l, e, h1, h2, h3⟩ := open_rows (enc := enc) (base := base) (sp := sp) (held := held) k25 (fun y _ => True) Tryz.underlying22 hs (fun k hk cs' x' h' => by
        obtain ⟨y, hy⟩ := (ih k (by omega)).1 cs' x' h'
        exact ⟨y, hy, trivial⟩) h
      exact ⟨A, c, l, e, h1, h2⟩
end
end Go.Proofs.YtndbeeboehekaaaGreatDoor.Q
