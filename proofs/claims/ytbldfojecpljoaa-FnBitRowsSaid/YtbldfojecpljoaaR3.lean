/- Walks of functions, printed by a program of this claim. -/
import Derived.Test.YtbldfojecpljoaaR2
import Derived.Test.YtbldfojecpljoaaEqAgg
namespace Go.Proofs.Ytbldfojecpljoaa.X
set_option linter.unusedVariables false
set_option linter.unusedSimpArgs false
open Go Go.RowKit

namespace R3
theorem ag46_2 : aggB Try.prog 46 2 = true := by kernel_rfl
theorem ca20 : callable Try.prog 20 = true := by kernel_rfl
theorem ca23 : callable Try.prog 23 = true := by kernel_rfl
theorem ca24 : callable Try.prog 24 = true := by kernel_rfl
theorem eg46 : Try.prog.eqGuardType Try.prog.depth 46 = false := by kernel_rfl
theorem sc3 : scalarB Try.prog 3 = true := by kernel_rfl
theorem sz3_1 : sizeB Try.prog 3 1 = true := by kernel_rfl
theorem sz46_2 : sizeB Try.prog 46 2 = true := by kernel_rfl
theorem ze46 : zeroL Try.prog 46 = some [.int .i64 0, .int .i64 0] := by kernel_rfl

end R3
open R3

set_option maxRecDepth 100000 in
theorem c_FnBitRows (w : World) (bs : List UInt8) (hb : bs.length ≤ 9223372036854775807) : Calls Try.prog 7 #[.string (str bs)] w (Ret fun v w' => v = .bool true ∧ Fr [] w w') := by
  refine enter (fun ρ => ρ 2) Try.func7 rfl rfl rfl (res1 rfl) ?_
  have H := SH.nil w
  have hsz := size_str bs
  have hlt : (bs.take 100).length ≤ 100 := by simp; omega
  generalize hu : bs.take 100 = u at hlt
  refine sq ?_
  refine rg ?_
  refine asg (v := .bool _) rfl rfl ?_
  refine nl ?_
  refine then_n ?_
  refine sq ?_
  refine sq ?_
  refine rg ?_
  refine mv (v := .string _) rfl rfl ?_
  refine lnT rfl Try.underlying9 rfl ?_
  refine gtr rfl rfl rfl ?_
  refine nl ?_
  refine then_n ?_
  first | refine cd rfl (fun hc1 => ?_) (fun hc1 => ?_) | refine cn rfl (fun hc1 => ?_) (fun hc1 => ?_)   -- test 1
  · refine sq ?_
    refine rg ?_
    refine asg (v := .bool _) rfl rfl ?_
    refine nl ?_
    refine then_n ?_
    refine rt ?_
    refine then_r ?_
    refine fin_r ?_
    exact ⟨rfl, H.fr⟩
  · refine sk ?_
    refine then_n ?_
    refine sq ?_
    refine rg ?_
    refine mv (v := .string _) rfl rfl ?_
    refine cl ca20 (hu ▸ c_someBits _ bs (by omega)) rfl ?_
    rintro _ w1 ⟨rfl, F⟩
    replace H := H.keep F; clear F
    refine asg (v := .string _) rfl rfl ?_
    refine nl ?_
    refine then_n ?_
    refine sq ?_
    refine rg ?_
    refine mv (v := .string _) rfl rfl ?_
    refine cl ca23 (c_implRows _ u (by omega)) rfl ?_
    rintro _ w2 ⟨A, cpA, rfl, hcA, F⟩
    replace H := H.keep F; clear F
    refine mv (v := .string _) rfl rfl ?_
    refine cl ca24 (c_specRows _ u (by omega)) rfl ?_
    rintro _ w3 ⟨B, cpB, rfl, hcB, F⟩
    replace H := H.keep F; replace hcA := cells_keep F hcA; clear F
    refine asg (v := .slice _ _ _) rfl rfl ?_
    refine asg (v := .slice _ _ _) rfl rfl ?_
    refine nl ?_
    refine then_n ?_
    refine sq ?_
    refine sq ?_
    refine rg ?_
    refine mv (v := .slice _ _ _) rfl rfl ?_
    refine lnS rfl Try.underlying44 rfl ?_
    refine mv (v := .slice _ _ _) rfl rfl ?_
    refine lnS rfl Try.underlying44 rfl ?_
    refine neq rfl rfl rfl ?_
    refine mv (v := .bool _) rfl rfl ?_
    first | refine spL (t := 22) (b := false) rfl ?_ | refine spF (t := 22) rfl (fun h => h rfl) ?_   -- guard 1
    refine gy rfl ?_
    refine cl ca23 (c_implRows _ [0] (by decide)) rfl ?_
    rintro _ w4 ⟨C, cpC, rfl, _, F⟩
    replace H := H.keep F; replace hcA := cells_keep F hcA; replace hcB := cells_keep F hcB; clear F
    refine gy rfl ?_
    refine lnS rfl Try.underlying44 rfl ?_
    refine gy rfl ?_
    refine neq rfl rfl rfl ?_
    refine pkF (v := .bool _) rfl rfl rfl ?_
    refine nl ?_
    refine then_n ?_
    first | refine cF rfl (by decide +kernel) ?_ | refine cbF rfl (by decide +kernel) ?_   -- test 2
    refine sk ?_
    refine then_n ?_
    refine sq ?_
    refine sq ?_
    refine rg ?_
    refine mv (v := .slice _ _ _) rfl rfl ?_
    refine lnS rfl Try.underlying44 rfl ?_
    refine mv (v := .int .i64 _) rfl rfl ?_
    refine nl ?_
    refine then_n ?_
    refine bk ?_
    have F0 := H.fr; clear H; have hrl := r_len u (8 * u.length)
    refine lpM (α := Nat) [2, 6, 7, 29, 30, 31, 32, 33, 34, 35, 36, 37, 38, 39, 40] (fun i => [(29, .int .i64 (i : Int))]) (fun i w' => i ≤ (rSt u (8 * u.length)).length ∧ SH w4 [] w' []) (fun i => (rSt u (8 * u.length)).length - i) 0 ?_ (fC (by first | rfl | exact congrArg (Value.int _) (by first | omega | assumption | (symm; assumption) | (simp; done) | (simp; omega)) | exact congrArg (fun n => Value.slice _ n _) (by first | simp; done | simp; omega)) (fN _)) ?_   -- loop 1
    · exact ⟨by omega, SH.nil _⟩
    · rintro i ρx w5 ⟨hi, H⟩
      refine sq ?_
      refine rg ?_
      refine lss rfl rfl rfl ?_
      refine nl ?_
      refine then_n ?_
      refine sq ?_
      first | refine cd rfl (fun hc3 => ?_) (fun hc3 => ?_) | refine cn rfl (fun hc3 => ?_) (fun hc3 => ?_)   -- test 3
      · obtain ⟨r, hr⟩ : ∃ r, (rSt u (8 * u.length))[i]? = some r := ⟨_, List.getElem?_eq_getElem (by omega)⟩
        obtain ⟨ad, rfl, hq0, hq1⟩ := row_at hcA hr
        obtain ⟨ad2, rfl, hp0, hp1⟩ := row_at hcB hr
        have hlwA := row_lw hq0 hq1
        have hlw := row_lw (H.fr.cell hp0 (by simp)) (H.fr.cell hp1 (by simp))
        refine sk ?_
        refine then_n ?_
        refine sq ?_
        refine bk ?_
        refine sq ?_
        refine rg ?_
        refine mv (v := .int .i64 _) rfl rfl ?_
        first | refine ia rfl rfl Try.underlying44 sz46_2 (by omega) rfl ?_ | refine iB rfl rfl Try.underlying44 sz46_2 (by omega) rfl ?_
        first | refine la H rfl ag46_2 rfl rfl rfl ?_ | refine lw rfl ag46_2 rfl (by assumption) rfl ?_
        refine al H ze46 rfl ?_
        clear H; intro b1 w6 hb1 H _
        refine asg (v := .int .i64 _) rfl rfl ?_
        refine sa H rfl rfl ag46_2 rfl rfl (by decide) (by omega) rfl ?_
        clear H; intro w7 H _
        refine nl ?_
        refine then_n ?_
        refine sq ?_
        refine dr (by kernel_rfl) ?_   -- region 10
        have H := H.drew
        refine holdH H [] ?_
        refine tk (i := 0) rfl (by kernel_rfl) rfl H (fun w' H => r_mv (v := .slice _ _ _) rfl) ?_
        refine tk (i := 1) rfl (by kernel_rfl) rfl H (fun w' H => r_mv (v := .int .i64 _) rfl) ?_
        first | refine tk (i := 2) rfl (by kernel_rfl) rfl H (fun w' H => r_ia rfl rfl Try.underlying44 sz46_2 (by omega)) ?_ | refine tk (i := 2) rfl (by kernel_rfl) rfl H (fun w' H => r_iB rfl rfl Try.underlying44 sz46_2 (by omega)) ?_
        refine tk (i := 3) rfl (by kernel_rfl) rfl H (fun w' H => r_lw rfl ag46_2 rfl (fun j v h => H.fr.cell (hlwA j v h) (by simp))) ?_
        first | refine tk (i := 4) rfl (by kernel_rfl) rfl H (fun w' H => r_la H rfl ag46_2 rfl rfl) ?_ | refine tk (i := 4) rfl (by kernel_rfl) rfl H (fun w' H => r_lw rfl ag46_2 rfl (by assumption)) ?_
        refine tk (i := 5) rfl (by kernel_rfl) rfl H (fun w' H => r_neqPr rfl rfl eg46 Try.underlying46 Try.underlying3 sz3_1 sc3) ?_
        refine da (by kernel_rfl) ?_
        refine then_n ?_
        first | refine cF rfl (by simp) ?_ | refine cbF rfl (by simp) ?_   -- test 4
        refine sk ?_
        refine in_n ?_
        refine then_n ?_
        refine rg ?_
        refine add rfl rfl (by first | exact w_i64 (by omega) | exact w_i64 (rng_i64 _) | rfl) rfl ?_
        refine mv (v := .int .i64 _) rfl rfl ?_
        refine nl ?_
        refine loop_n ?_
        exact ⟨i + 1, (by (try dsimp only); omega), ⟨by omega, H.drop⟩, (fC (by first | rfl | exact congrArg (Value.int _) (by first | omega | assumption | (symm; assumption) | (simp; done) | (simp; omega)) | exact congrArg (fun n => Value.slice _ n _) (by first | simp; done | simp; omega)) (fN _)), (by repeat (first | exact Agree.setL rfl Agree.mask | exact Agree.self _ _ | refine Agree.upd rfl ?_ | refine Agree.setL rfl ?_ | refine Agree.mask2 rfl ?_))⟩
      · refine ex ?_
        refine then_e ?_
        refine loop_e ?_
        refine in_hit rfl ?_
        refine then_n ?_
        refine sq ?_
        refine rg ?_
        refine asg (v := .bool _) rfl rfl ?_
        refine nl ?_
        refine then_n ?_
        refine rt ?_
        refine fin_r ?_
        exact ⟨rfl, F0.trans H.fr⟩

end Go.Proofs.Ytbldfojecpljoaa.X
