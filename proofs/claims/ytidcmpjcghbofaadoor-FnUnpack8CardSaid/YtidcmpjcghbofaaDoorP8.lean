/- The law FnUnpack8 over numbers and lists. -/
import Derived.Test.YtidcmpjcghbofaaDoorQU8a
import Derived.DataShut
namespace Go.Proofs.YtidcmpjcghbofaaDoor.Pure
open Go.RowKit Go.Proofs.YtidcmpjcghbofaaDoor.Q Go.Proofs.YtidcmpjcghbofaaDoorW.PrintWords Go.Proofs.YtidcmpjcghbofaaDoorW.PrintLast Go.Proofs.YtidcmpjcghbofaaDoorW.PrintMore

theorem ob {α β : Type} (a : α) (f : α → Option β) : (some a).bind f = f a := by cases hf : f a <;> exact hf
theorem lowest8 : laws_lowest.f 32 = some ((List.replicate 32 (0 : Int)).set 0 1) := by
  unfold laws_lowest.f
  rw [if_pos (by omega), if_pos (by decide)]
  rfl
theorem lowest8_ok : ((List.replicate 32 (0 : Int)).set 0 1).length = 4 * 8 ∧ ∀ x ∈ ((List.replicate 32 (0 : Int)).set 0 1), 0 ≤ x ∧ x ≤ 255 := by
  refine ⟨by simp, fun x hx => ?_⟩
  rcases List.mem_or_eq_of_mem_set hx with h | rfl
  · rw [List.mem_replicate] at h; omega
  · omega

theorem FnUnpack8 : laws_FnUnpack8.Pure := by
  intro l0 _ _ hw
  suffices main : ∀ k, 1024 < k → laws_FnUnpack8.f k l0 = some true from ⟨1025, main 1025 (by decide)⟩
  intro k hk
  have hb : ∀ x ∈ l0, 0 ≤ x ∧ x ≤ 255 := fun x hx => bounds_u8 (hw x hx)
  unfold laws_FnUnpack8.f
  by_cases c0 : (l0.length : Int) > 2147483647
  · rw [if_pos c0]
  · rw [if_neg c0, lowest8]
    have hok := lowest8_ok
    generalize (List.replicate 32 (0 : Int)).set 0 1 = low at hok ⊢
    have a1 : impl_Unpack8.f low = _ := unpF_is 8 _ hok.1 hok.2
    have a2 := unpacked_is _ hok.2 8 (by decide) (by decide) hok.1 k hk
    rw [show ((8 : Nat) : Int) = 8 from rfl] at a2
    rw [ob, a1, ob, ob, a2, ob]
    by_cases c1 : (l0.length : Int) = 32
    · have hn : l0.length = 4 * 8 := by omega
      have b1 : impl_Unpack8.f l0 = _ := unpF_is 8 _ hn hb
      have b2 := unpacked_is _ hb 8 (by decide) (by decide) hn k hk
      rw [show ((8 : Nat) : Int) = 8 from rfl] at b2
      rw [if_pos c1]
      rw [b1, ob, b2, ob, if_pos rfl]
    · rw [if_neg c1]
end Go.Proofs.YtidcmpjcghbofaaDoor.Pure
