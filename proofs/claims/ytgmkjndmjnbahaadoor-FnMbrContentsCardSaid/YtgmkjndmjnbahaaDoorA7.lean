/- Walks of functions, printed by a program of this claim. -/
import Derived.Test.YtgmkjndmjnbahaaDoorA6
namespace Go.Proofs.YtgmkjndmjnbahaaDoor.X
set_option linter.unusedVariables false
set_option linter.unusedSimpArgs false
open Go Go.RowKit

namespace A7
theorem bo93 : buildOK Tryd.prog 93 = true := by kernel_rfl
theorem cc91 : Tryd.prog.concrete 91 = true := by kernel_rfl
theorem pl93_0 : placeOf Tryd.prog 93 0 = some (0, 1) := by kernel_rfl
theorem ze93 : zeroL Tryd.prog 93 = some [.string ⟨#[]⟩] := by kernel_rfl

end A7
open A7

set_option maxRecDepth 100000 in
set_option maxHeartbeats 1000000 in
theorem c_errNew (w : World) (s : List UInt8) : Calls Tryd.prog 18 #[.string (str s)] w (Ret fun v w' => (∃ b, v = .iface 91 (.pointer (some ⟨b, 0, none⟩))) ∧ Fr [] w w') := by
  refine enter (fun ρ => ρ 2) Tryd.func18 rfl rfl rfl (res1 rfl) ?_
  have H := SH.nil w
  refine sq ?_
  refine rg ?_
  refine asg (v := .nilIface) rfl rfl ?_
  refine nl ?_
  refine then_n ?_
  refine sq ?_
  refine rg ?_
  refine mv (v := .string _) rfl rfl ?_
  refine bu (out := ?o1) ze93 bo93 ?f1 rfl ?_
  case f1 =>
    refine FL.one (v := .string _) rfl pl93_0 rfl (by first | decide | simp) ?_
    exact FL.nil
  refine bx (v := .agg _) H rfl rfl rfl ?_
  clear H; intro b1 w1 hb1 H _
  refine mi (v := .pointer _) rfl cc91 rfl ?_
  first | refine asg (v := .nilIface) rfl rfl ?_ | refine asg (v := .iface _ _) rfl rfl ?_ | refine asg rfl rfl ?_
  refine nl ?_
  refine then_n ?_
  refine rt ?_
  refine fin_r ?_
  exact ⟨⟨_, rfl⟩, H.fr⟩

end Go.Proofs.YtgmkjndmjnbahaaDoor.X
