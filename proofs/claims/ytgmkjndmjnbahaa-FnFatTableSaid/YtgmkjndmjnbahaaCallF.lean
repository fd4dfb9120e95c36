/- A call that turns some of the blocks that are known. -/
import Derived.Test.YtgmkjndmjnbahaaFatSteps
namespace Go.Proofs.Ytgmkjndmjnbahaa.X
set_option linter.unusedVariables false
open Go Go.RowKit
theorem SH.call {w0 w1 w2 : World} {S0 S : List Nat} {A M M' : List Ent} (H : SH w0 S0 w1 (A ++ M)) (K : SH w1 S w2 M') (hS : ∀ s ∈ S, ∃ x ∈ M, x.b = s ∧ x.m = true) (hm : ∀ y ∈ M', y.m = true) : SH w0 S0 w2 (A ++ M') := by
  have hp := List.pairwise_append.1 H.ap
  have hA : ∀ x ∈ A, x.b ∉ S := fun x hx h => by
    obtain ⟨y, hy, e, hym⟩ := hS _ h
    exact hp.2.2 x hx y hy (by simp [hym]) e.symm
  refine ⟨H.fr.then K.fr ?_, ?_, ?_, ?_⟩
  · intro t ht
    obtain ⟨y, hy, e, hym⟩ := hS _ ht
    rw [← e]
    exact H.mu y (List.mem_append.2 (.inr hy)) hym
  · intro x hx
    rcases List.mem_append.1 hx with hx | hx
    · exact K.fr.at (H.get x (List.mem_append.2 (.inl hx))) (hA x hx)
    · exact K.get x hx
  · rw [List.pairwise_append]
    refine ⟨hp.1, K.ap, fun x hx y hy _ e => ?_⟩
    rcases K.mu y hy (hm y hy) with h | h
    · exact hA x hx (e ▸ h)
    · have h2 := lt_of_at (H.get x (List.mem_append.2 (.inl hx)))
      omega
  · intro x hx hxm
    rcases List.mem_append.1 hx with hx | hx
    · exact H.mu x (List.mem_append.2 (.inl hx)) hxm
    · rcases K.mu x hx hxm with h | h
      · obtain ⟨y, hy, e, hym⟩ := hS _ h
        rw [← e]
        exact H.mu y (List.mem_append.2 (.inr hy)) hym
      · exact .inr (Nat.le_trans H.size h)
end Go.Proofs.Ytgmkjndmjnbahaa.X
