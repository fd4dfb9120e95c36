/- Symbolic heaps put together: what a call has made, and what was there. -/
import Derived.Test.YtgmkjndmjnbahaaDoorSteps4
namespace Go.Proofs.YtgmkjndmjnbahaaDoor.X
set_option linter.unusedVariables false
open Go Go.RowKit
theorem SH.perm {w0 w : World} {S : List Nat} {L L' : List Ent} (H : SH w0 S w L) (h : L.Perm L') : SH w0 S w L' :=
  ⟨H.fr, fun x hx => H.get x (h.mem_iff.2 hx), h.pairwise H.ap (fun {x y} hxy hm => (hxy (by rw [Bool.or_comm]; exact hm)).symm), fun x hx => H.mu x (h.mem_iff.2 hx)⟩
/-- What a call has made, beside what was known. -/
theorem SH.join {w0 w w' : World} {S : List Nat} {L N : List Ent} (H : SH w0 S w L) (K : SH w [] w' N) (hm : ∀ x ∈ N, x.m = true) : SH w0 S w' (N ++ L) := by
  have H' := H.keep K.fr
  refine ⟨H'.fr, ?_, ?_, ?_⟩
  · intro x hx
    rcases List.mem_append.1 hx with hx | hx
    · exact K.get x hx
    · exact H'.get x hx
  · rw [List.pairwise_append]
    refine ⟨K.ap, H'.ap, fun x hx y hy _ => ?_⟩
    have h1 := (K.mu x hx (hm x hx)).resolve_left (by simp)
    have h2 := lt_of_at (H.get y hy)
    omega
  · intro x hx hxm
    rcases List.mem_append.1 hx with hx | hx
    · have h1 := (K.mu x hx (hm x hx)).resolve_left (by simp)
      exact .inr (Nat.le_trans H.size h1)
    · exact H'.mu x hx hxm
/-- What is known of some blocks, of which those of T may be written by a call: the call's own heap. -/
theorem SH.sub_call {w0 w : World} {S : List Nat} {L : List Ent} (H : SH w0 S w L) {M : List Ent} (hM : ∀ x ∈ M, x ∈ L) (hp : M.Pairwise fun x y => (x.m || y.m) = true → x.b ≠ y.b) (T : List Nat) (hT : ∀ x ∈ M, x.m = true → x.b ∈ T) : SH w T w M :=
  SH.init T M (fun x hx => H.get x (hM x hx)) hp hT
theorem SH.pair_sub {w0 w : World} {S : List Nat} {L M : List Ent} (H : SH w0 S w L) (h : List.Sublist M L) : M.Pairwise fun x y => (x.m || y.m) = true → x.b ≠ y.b := H.ap.sublist h
/-- A call's own heap, seen from its caller's beginning. -/
theorem SH.back {w w1 w' : World} {N : List Ent} (F : Fr [] w w1) (K : SH w1 [] w' N) : SH w [] w' N :=
  ⟨F.trans K.fr, K.get, K.ap, fun x hx hm => .inr (Nat.le_trans F.size ((K.mu x hx hm).resolve_left (by simp)))⟩
end Go.Proofs.YtgmkjndmjnbahaaDoor.X
