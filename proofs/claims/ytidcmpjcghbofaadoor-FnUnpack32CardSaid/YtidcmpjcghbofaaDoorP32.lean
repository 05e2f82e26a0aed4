/- The law FnUnpack32 over numbers and lists. -/
import Derived.Test.YtidcmpjcghbofaaDoorQU32a
import Derived.DataShut
namespace Go.Proofs.YtidcmpjcghbofaaDoor.Pure
open Go.RowKit Go.Proofs.YtidcmpjcghbofaaDoor.Q Go.Proofs.YtidcmpjcghbofaaDoorW.PrintWords Go.Proofs.YtidcmpjcghbofaaDoorW.PrintLast Go.Proofs.YtidcmpjcghbofaaDoorW.PrintMore

theorem ob {α β : Type} (a : α) (f : α → Option β) : (some a).bind f = f a := by cases hf : f a <;> exact hf
set_option maxRecDepth 100000 in
theorem lowest32 : laws_lowest.f 128 = some ((List.replicate 128 (0 : Int)).set 0 1) := by
  unfold laws_lowest.f
  rw [if_pos (by omega), if_pos (by decide)]
  rfl
theorem lowest32_ok : ((List.replicate 128 (0 : Int)).set 0 1).length = 4 * 32 ∧ ∀ x ∈ ((List.replicate 128 (0 : Int)).set 0 1), 0 ≤ x ∧ x ≤ 255 := by
  refine ⟨by simp, fun x hx => ?_⟩
  rcases List.mem_or_eq_of_mem_set hx with h | rfl
  · rw [List.mem_replicate] at h; omega
  · omega

theorem FnUnpack32 : laws_FnUnpack32.Pure := by
  intro l0 _ _ hw
  suffices main : ∀ k, 1024 < k → laws_FnUnpack32.f k l0 = some true from ⟨1025, main 1025 (by decide)⟩
  intro k hk
  have hb : ∀ x ∈ l0, 0 ≤ x ∧ x ≤ 255 := fun x hx => bounds_u8 (hw x hx)
  unfold laws_FnUnpack32.f
  by_cases c0 : (l0.length : Int) > 2147483647
  · rw [if_pos c0]
  · rw [if_neg c0, lowest32]
    have hok := lowest32_ok
    generalize (List.replicate 128 (0 : Int)).set 0 1 = low at hok ⊢
    have a1 : impl_Unpack32.f low = _ := unpF_is 32 _ hok.1 hok.2
    have a2 := unpacked_is _ hok.2 32 (by decide) (by decide) hok.1 k hk
    rw [show ((32 : Nat) : Int) = 32 from rfl] at a2
    rw [ob, a1, ob, ob, a2, ob]
    by_cases c1 : (l0.length : Int) = 128
    · have hn : l0.length = 4 * 32 := by omega
      have b1 : impl_Unpack32.f l0 = _ := unpF_is 32 _ hn hb
      have b2 := unpacked_is _ hb 32 (by decide) (by decide) hn k hk
      rw [show ((32 : Nat) : Int) = 32 from rfl] at b2
      rw [if_pos c1]
      rw [b1, ob, b2, ob, if_pos rfl]
    · rw [if_neg c1]
end Go.Proofs.YtidcmpjcghbofaaDoor.Pure
