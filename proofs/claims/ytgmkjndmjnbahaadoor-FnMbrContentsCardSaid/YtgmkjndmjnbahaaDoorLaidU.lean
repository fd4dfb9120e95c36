/- What the listed error io.EOF gives a walk, and a world in which it lies. -/
import Derived.Test.YtgmkjndmjnbahaaDoorRows
import Derived.Test.YtgmkjndmjnbahaaDoorCallG
import Derived.ProofKit
import Derived.LaidMore
import Derived.LaidLaws
import Derived.Lay
import Derived.Stop.Joined
import Derived.Stop.LaidErr
namespace Go.Proofs.YtgmkjndmjnbahaaDoor.X
open Go
def laidU : List (String × DataW Unit) := [("io.EOF", Rows.laid_io_EOF)]
set_option maxRecDepth 100000 in
theorem laidU_plain {W : World} (h : laidMetH Tryd.prog laidU W) : laidMet Tryd.prog laidU W := by
  rw [MakeChecks.laidMetH_plain _ _ _ (by kernel_rfl)] at h
  exact h
set_option maxRecDepth 100000 in
/-- The listed error io.EOF, in memory. -/
theorem eof_of_laid {W : World} (h : laidMetH Tryd.prog laidU W) : ∃ ad, EofW 0 91 ad W := by
  have h := laidU_plain h
  have gE : Tryd.prog.globalNamed "io.EOF" = some 0 := by kernel_rfl
  have star : "*" ++ "errors.errorString" = "*errors.errorString" := by decide
  obtain ⟨a, s, hv, _⟩ := Go.laid_sentinel h gE (by kernel_rfl) Tryd.underlying48 (fun u hu => typeName_ptr_named (nm := "errors.errorString") (tp := 91) (by rw [star]; kernel_rfl) (by kernel_rfl) (by decide) u (by rw [star]; exact hu)) Tryd.underlying91 Tryd.underlying93 rfl rfl Tryd.underlying9 (by kernel_rfl) (by kernel_rfl)
  exact ⟨a, by unfold EofW; simpa using World.var?_cell gE hv 0⟩
end Go.Proofs.YtgmkjndmjnbahaaDoor.X
