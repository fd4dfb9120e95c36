/- Walks of functions, printed by a program of this claim. -/
import Derived.Test.YtgmkjndmjnbahaaT9
namespace Go.Proofs.Ytgmkjndmjnbahaa.X
set_option linter.unusedVariables false
set_option linter.unusedSimpArgs false
open Go Go.RowKit

namespace T10
theorem sc3 : scalarB Try.prog 3 = true := by kernel_rfl
theorem sz3_1 : sizeB Try.prog 3 1 = true := by kernel_rfl
theorem ze3 : zeroL Try.prog 3 = some [.int .i64 0] := by kernel_rfl

end T10
open T10

set_option maxRecDepth 100000 in
set_option maxHeartbeats 1000000 in
theorem c_fatBits12 (w : World) (x : Int) (h0 : 0 ≤ x ∧ x ≤ 255) (hx : x % 3 = 0) : Calls Try.prog 4 #[.int .u8 x] w (Ret fun v w' => v = .int .i64 12 ∧ Fr [] w w') := by
  refine enter (fun ρ => ρ 2) Try.func4 rfl rfl rfl (res1 rfl) ?_
  have H := SH.nil w
  refine sq ?_
  refine rg ?_
  refine asg (v := .int .i64 _) rfl rfl ?_
  refine nl ?_
  refine then_n ?_
  refine sq ?_
  refine rg ?_
  refine bsl (sz := 1) (out := ?o1) H Try.underlying30 ze3 sz3_1 (by decide) ?f1 rfl ?_
  case f1 =>
    refine FS.one (v := .int .i64 _) rfl rfl rfl (by first | decide | simp) ?_
    refine FS.one (v := .int .i64 _) rfl rfl rfl (by first | decide | simp) ?_
    refine FS.one (v := .int .i64 _) rfl rfl rfl (by first | decide | simp) ?_
    exact FS.nil
  clear H; intro b1 w1 hb1 H F
  refine mv (v := .int .u8 _) rfl rfl ?_
  refine rem (c := 0) rfl rfl (by omega) (by omega) hx rfl ?_
  first | refine ia rfl rfl Try.underlying30 sz3_1 (by omega) rfl ?_ | refine iA rfl rfl Try.underlying30 sz3_1 (by omega) rfl ?_
  first | refine ld H rfl sc3 rfl rfl ?_ | refine lc rfl (by first | assumption | exact H.fr.cell (by assumption) (by simp)) sc3 rfl ?_ | refine ld H rfl sc3 (by assumption) rfl ?_
  refine asg (v := .int .i64 _) rfl rfl ?_
  refine nl ?_
  refine then_n ?_
  refine rt ?_
  refine fin_r ?_
  exact ⟨rfl, H.fr⟩

set_option maxRecDepth 100000 in
set_option maxHeartbeats 1000000 in
theorem c_fatBits16 (w : World) (x : Int) (h0 : 0 ≤ x ∧ x ≤ 255) (hx : x % 3 = 1) : Calls Try.prog 4 #[.int .u8 x] w (Ret fun v w' => v = .int .i64 16 ∧ Fr [] w w') := by
  refine enter (fun ρ => ρ 2) Try.func4 rfl rfl rfl (res1 rfl) ?_
  have H := SH.nil w
  refine sq ?_
  refine rg ?_
  refine asg (v := .int .i64 _) rfl rfl ?_
  refine nl ?_
  refine then_n ?_
  refine sq ?_
  refine rg ?_
  refine bsl (sz := 1) (out := ?o1) H Try.underlying30 ze3 sz3_1 (by decide) ?f1 rfl ?_
  case f1 =>
    refine FS.one (v := .int .i64 _) rfl rfl rfl (by first | decide | simp) ?_
    refine FS.one (v := .int .i64 _) rfl rfl rfl (by first | decide | simp) ?_
    refine FS.one (v := .int .i64 _) rfl rfl rfl (by first | decide | simp) ?_
    exact FS.nil
  clear H; intro b1 w1 hb1 H F
  refine mv (v := .int .u8 _) rfl rfl ?_
  refine rem (c := 1) rfl rfl (by omega) (by omega) hx rfl ?_
  first | refine ia rfl rfl Try.underlying30 sz3_1 (by omega) rfl ?_ | refine iA rfl rfl Try.underlying30 sz3_1 (by omega) rfl ?_
  first | refine ld H rfl sc3 rfl rfl ?_ | refine lc rfl (by first | assumption | exact H.fr.cell (by assumption) (by simp)) sc3 rfl ?_ | refine ld H rfl sc3 (by assumption) rfl ?_
  refine asg (v := .int .i64 _) rfl rfl ?_
  refine nl ?_
  refine then_n ?_
  refine rt ?_
  refine fin_r ?_
  exact ⟨rfl, H.fr⟩

set_option maxRecDepth 100000 in
set_option maxHeartbeats 1000000 in
theorem c_fatBits32 (w : World) (x : Int) (h0 : 0 ≤ x ∧ x ≤ 255) (hx : x % 3 = 2) : Calls Try.prog 4 #[.int .u8 x] w (Ret fun v w' => v = .int .i64 32 ∧ Fr [] w w') := by
  refine enter (fun ρ => ρ 2) Try.func4 rfl rfl rfl (res1 rfl) ?_
  have H := SH.nil w
  refine sq ?_
  refine rg ?_
  refine asg (v := .int .i64 _) rfl rfl ?_
  refine nl ?_
  refine then_n ?_
  refine sq ?_
  refine rg ?_
  refine bsl (sz := 1) (out := ?o1) H Try.underlying30 ze3 sz3_1 (by decide) ?f1 rfl ?_
  case f1 =>
    refine FS.one (v := .int .i64 _) rfl rfl rfl (by first | decide | simp) ?_
    refine FS.one (v := .int .i64 _) rfl rfl rfl (by first | decide | simp) ?_
    refine FS.one (v := .int .i64 _) rfl rfl rfl (by first | decide | simp) ?_
    exact FS.nil
  clear H; intro b1 w1 hb1 H F
  refine mv (v := .int .u8 _) rfl rfl ?_
  refine rem (c := 2) rfl rfl (by omega) (by omega) hx rfl ?_
  first | refine ia rfl rfl Try.underlying30 sz3_1 (by omega) rfl ?_ | refine iA rfl rfl Try.underlying30 sz3_1 (by omega) rfl ?_
  first | refine ld H rfl sc3 rfl rfl ?_ | refine lc rfl (by first | assumption | exact H.fr.cell (by assumption) (by simp)) sc3 rfl ?_ | refine ld H rfl sc3 (by assumption) rfl ?_
  refine asg (v := .int .i64 _) rfl rfl ?_
  refine nl ?_
  refine then_n ?_
  refine rt ?_
  refine fin_r ?_
  exact ⟨rfl, H.fr⟩

end Go.Proofs.Ytgmkjndmjnbahaa.X
