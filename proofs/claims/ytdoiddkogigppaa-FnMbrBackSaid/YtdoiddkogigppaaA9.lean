/- Walks of functions, printed by a program of this claim. -/
import Derived.Test.YtdoiddkogigppaaA8
namespace Go.Proofs.Ytdoiddkogigppaa.X
set_option linter.unusedVariables false
set_option linter.unusedSimpArgs false
open Go Go.RowKit

namespace A9
theorem ag26_11 : aggB Try.prog 26 11 = true := by kernel_rfl
theorem bo24 : buildOK Try.prog 24 = true := by kernel_rfl
theorem bo26 : buildOK Try.prog 26 = true := by kernel_rfl
theorem fo75_0 : fieldOff Try.prog 75 0 = some 0 := by kernel_rfl
theorem fo75_1 : fieldOff Try.prog 75 1 = some 1 := by kernel_rfl
theorem fo75_10 : fieldOff Try.prog 75 10 = some 10 := by kernel_rfl
theorem fo75_2 : fieldOff Try.prog 75 2 = some 2 := by kernel_rfl
theorem fo75_3 : fieldOff Try.prog 75 3 = some 3 := by kernel_rfl
theorem fo75_4 : fieldOff Try.prog 75 4 = some 4 := by kernel_rfl
theorem fo75_5 : fieldOff Try.prog 75 5 = some 5 := by kernel_rfl
theorem fo75_6 : fieldOff Try.prog 75 6 = some 6 := by kernel_rfl
theorem fo75_7 : fieldOff Try.prog 75 7 = some 7 := by kernel_rfl
theorem fo75_8 : fieldOff Try.prog 75 8 = some 8 := by kernel_rfl
theorem fo75_9 : fieldOff Try.prog 75 9 = some 9 := by kernel_rfl
theorem pl24_0 : placeOf Try.prog 24 0 = some (0, 1) := by kernel_rfl
theorem pl24_1 : placeOf Try.prog 24 1 = some (1, 1) := by kernel_rfl
theorem pl24_2 : placeOf Try.prog 24 2 = some (2, 1) := by kernel_rfl
theorem pl24_3 : placeOf Try.prog 24 3 = some (3, 1) := by kernel_rfl
theorem pl24_4 : placeOf Try.prog 24 4 = some (4, 1) := by kernel_rfl
theorem pl24_5 : placeOf Try.prog 24 5 = some (5, 1) := by kernel_rfl
theorem pl26_0 : placeOf Try.prog 26 0 = some (0, 1) := by kernel_rfl
theorem pl26_1 : placeOf Try.prog 26 1 = some (1, 1) := by kernel_rfl
theorem pl26_2 : placeOf Try.prog 26 2 = some (2, 1) := by kernel_rfl
theorem pl26_3 : placeOf Try.prog 26 3 = some (3, 1) := by kernel_rfl
theorem pl26_4 : placeOf Try.prog 26 4 = some (4, 1) := by kernel_rfl
theorem pl26_5 : placeOf Try.prog 26 5 = some (5, 6) := by kernel_rfl
theorem sc23 : scalarB Try.prog 23 = true := by kernel_rfl
theorem sc3 : scalarB Try.prog 3 = true := by kernel_rfl
theorem sc4 : scalarB Try.prog 4 = true := by kernel_rfl
theorem sc5 : scalarB Try.prog 5 = true := by kernel_rfl
theorem sc73 : scalarB Try.prog 73 = true := by kernel_rfl
theorem ze24 : zeroL Try.prog 24 = some [.int .u8 0, .int .u8 0, .int .u8 0, .int .u8 0, .int .u8 0, .int .u8 0] := by kernel_rfl
theorem ze26 : zeroL Try.prog 26 = some [.int .i64 0, .bool false, .int .u8 0, .int .u32 0, .int .u32 0, .int .u8 0, .int .u8 0, .int .u8 0, .int .u8 0, .int .u8 0, .int .u8 0] := by kernel_rfl

end A9
open A9

set_option maxRecDepth 100000 in
theorem c_mbrTold (w : World) (p : Nat) (q : MP) (y1 y2 y3 : Value) (hp : w.heap[p]? = some (.cells (q.cells ++ [y1, y2, y3]).toArray 75 (0, 0))) : Calls Try.prog 18 #[.pointer (some ⟨p, 0, none⟩)] w (Ret fun v w' => v = .agg q.cells.toArray ∧ Fr [] w w') := by
  refine enterR [.cell 2 26] Try.func18 rfl rfl rfl rfl ?_
  have H := SH.ro1 hp
  refine sq ?_
  refine rg ?_
  refine al H ze26 rfl ?_
  clear H; intro b1 w1 hb1 H _
  refine nl ?_
  refine then_n ?_
  refine sq ?_
  refine dr (by kernel_rfl) ?_   -- region 1
  have H := H.drew
  refine holdH H [46] ?_
  refine tk (i := 0) rfl (by kernel_rfl) rfl H (fun w' H => r_mv (v := .pointer _) rfl) ?_
  first | refine tk (i := 1) rfl (by kernel_rfl) rfl H (fun w' H => r_nc rfl) ?_ | refine tk (i := 1) rfl (by kernel_rfl) rfl H (fun w' H => r_nci rfl) ?_
  refine tk (i := 2) rfl (by kernel_rfl) rfl H (fun w' H => r_fa rfl fo75_0) ?_
  first | refine tk (i := 3) rfl (by kernel_rfl) rfl H (fun w' H => r_ld H rfl sc3 rfl) ?_ | refine tk (i := 3) rfl (by kernel_rfl) rfl H (fun w' H => r_lc rfl (by first | assumption | exact H.fr.cell (by assumption) (by simp)) sc3) ?_ | refine tk (i := 3) rfl (by kernel_rfl) rfl H (fun w' H => r_ld H rfl sc3 (by assumption)) ?_
  refine tk (i := 4) rfl (by kernel_rfl) rfl H (fun w' H => r_mv (v := .pointer _) rfl) ?_
  first | refine tk (i := 5) rfl (by kernel_rfl) rfl H (fun w' H => r_nc rfl) ?_ | refine tk (i := 5) rfl (by kernel_rfl) rfl H (fun w' H => r_nci rfl) ?_
  refine tk (i := 6) rfl (by kernel_rfl) rfl H (fun w' H => r_fa rfl fo75_1) ?_
  first | refine tk (i := 7) rfl (by kernel_rfl) rfl H (fun w' H => r_ld H rfl sc4 rfl) ?_ | refine tk (i := 7) rfl (by kernel_rfl) rfl H (fun w' H => r_lc rfl (by first | assumption | exact H.fr.cell (by assumption) (by simp)) sc4) ?_ | refine tk (i := 7) rfl (by kernel_rfl) rfl H (fun w' H => r_ld H rfl sc4 (by assumption)) ?_
  refine tk (i := 8) rfl (by kernel_rfl) rfl H (fun w' H => r_mv (v := .pointer _) rfl) ?_
  first | refine tk (i := 9) rfl (by kernel_rfl) rfl H (fun w' H => r_nc rfl) ?_ | refine tk (i := 9) rfl (by kernel_rfl) rfl H (fun w' H => r_nci rfl) ?_
  refine tk (i := 10) rfl (by kernel_rfl) rfl H (fun w' H => r_fa rfl fo75_2) ?_
  first | refine tk (i := 11) rfl (by kernel_rfl) rfl H (fun w' H => r_ldb H rfl sc73 (by omega)) ?_ | refine tk (i := 11) rfl (by kernel_rfl) rfl H (fun w' H => r_ld H rfl sc73 rfl) ?_ | refine tk (i := 11) rfl (by kernel_rfl) rfl H (fun w' H => r_lc rfl (by assumption) sc73) ?_
  refine tk (i := 12) rfl (by kernel_rfl) rfl H (fun w' H => r_mv (v := .pointer _) rfl) ?_
  first | refine tk (i := 13) rfl (by kernel_rfl) rfl H (fun w' H => r_nc rfl) ?_ | refine tk (i := 13) rfl (by kernel_rfl) rfl H (fun w' H => r_nci rfl) ?_
  refine tk (i := 14) rfl (by kernel_rfl) rfl H (fun w' H => r_fa rfl fo75_3) ?_
  first | refine tk (i := 15) rfl (by kernel_rfl) rfl H (fun w' H => r_ld H rfl sc23 rfl) ?_ | refine tk (i := 15) rfl (by kernel_rfl) rfl H (fun w' H => r_lc rfl (by first | assumption | exact H.fr.cell (by assumption) (by simp)) sc23) ?_ | refine tk (i := 15) rfl (by kernel_rfl) rfl H (fun w' H => r_ld H rfl sc23 (by assumption)) ?_
  refine tk (i := 16) rfl (by kernel_rfl) rfl H (fun w' H => r_mv (v := .pointer _) rfl) ?_
  first | refine tk (i := 17) rfl (by kernel_rfl) rfl H (fun w' H => r_nc rfl) ?_ | refine tk (i := 17) rfl (by kernel_rfl) rfl H (fun w' H => r_nci rfl) ?_
  refine tk (i := 18) rfl (by kernel_rfl) rfl H (fun w' H => r_fa rfl fo75_4) ?_
  first | refine tk (i := 19) rfl (by kernel_rfl) rfl H (fun w' H => r_ld H rfl sc23 rfl) ?_ | refine tk (i := 19) rfl (by kernel_rfl) rfl H (fun w' H => r_lc rfl (by first | assumption | exact H.fr.cell (by assumption) (by simp)) sc23) ?_ | refine tk (i := 19) rfl (by kernel_rfl) rfl H (fun w' H => r_ld H rfl sc23 (by assumption)) ?_
  refine tk (i := 20) rfl (by kernel_rfl) rfl H (fun w' H => r_mv (v := .pointer _) rfl) ?_
  first | refine tk (i := 21) rfl (by kernel_rfl) rfl H (fun w' H => r_nc rfl) ?_ | refine tk (i := 21) rfl (by kernel_rfl) rfl H (fun w' H => r_nci rfl) ?_
  refine tk (i := 22) rfl (by kernel_rfl) rfl H (fun w' H => r_fa rfl fo75_5) ?_
  first | refine tk (i := 23) rfl (by kernel_rfl) rfl H (fun w' H => r_ldb H rfl sc5 (by omega)) ?_ | refine tk (i := 23) rfl (by kernel_rfl) rfl H (fun w' H => r_ld H rfl sc5 rfl) ?_ | refine tk (i := 23) rfl (by kernel_rfl) rfl H (fun w' H => r_lc rfl (by assumption) sc5) ?_
  refine tk (i := 24) rfl (by kernel_rfl) rfl H (fun w' H => r_mv (v := .pointer _) rfl) ?_
  first | refine tk (i := 25) rfl (by kernel_rfl) rfl H (fun w' H => r_nc rfl) ?_ | refine tk (i := 25) rfl (by kernel_rfl) rfl H (fun w' H => r_nci rfl) ?_
  refine tk (i := 26) rfl (by kernel_rfl) rfl H (fun w' H => r_fa rfl fo75_6) ?_
  first | refine tk (i := 27) rfl (by kernel_rfl) rfl H (fun w' H => r_ldb H rfl sc5 (by omega)) ?_ | refine tk (i := 27) rfl (by kernel_rfl) rfl H (fun w' H => r_ld H rfl sc5 rfl) ?_ | refine tk (i := 27) rfl (by kernel_rfl) rfl H (fun w' H => r_lc rfl (by assumption) sc5) ?_
  refine tk (i := 28) rfl (by kernel_rfl) rfl H (fun w' H => r_mv (v := .pointer _) rfl) ?_
  first | refine tk (i := 29) rfl (by kernel_rfl) rfl H (fun w' H => r_nc rfl) ?_ | refine tk (i := 29) rfl (by kernel_rfl) rfl H (fun w' H => r_nci rfl) ?_
  refine tk (i := 30) rfl (by kernel_rfl) rfl H (fun w' H => r_fa rfl fo75_7) ?_
  first | refine tk (i := 31) rfl (by kernel_rfl) rfl H (fun w' H => r_ldb H rfl sc5 (by omega)) ?_ | refine tk (i := 31) rfl (by kernel_rfl) rfl H (fun w' H => r_ld H rfl sc5 rfl) ?_ | refine tk (i := 31) rfl (by kernel_rfl) rfl H (fun w' H => r_lc rfl (by assumption) sc5) ?_
  refine tk (i := 32) rfl (by kernel_rfl) rfl H (fun w' H => r_mv (v := .pointer _) rfl) ?_
  first | refine tk (i := 33) rfl (by kernel_rfl) rfl H (fun w' H => r_nc rfl) ?_ | refine tk (i := 33) rfl (by kernel_rfl) rfl H (fun w' H => r_nci rfl) ?_
  refine tk (i := 34) rfl (by kernel_rfl) rfl H (fun w' H => r_fa rfl fo75_8) ?_
  first | refine tk (i := 35) rfl (by kernel_rfl) rfl H (fun w' H => r_ldb H rfl sc5 (by omega)) ?_ | refine tk (i := 35) rfl (by kernel_rfl) rfl H (fun w' H => r_ld H rfl sc5 rfl) ?_ | refine tk (i := 35) rfl (by kernel_rfl) rfl H (fun w' H => r_lc rfl (by assumption) sc5) ?_
  refine tk (i := 36) rfl (by kernel_rfl) rfl H (fun w' H => r_mv (v := .pointer _) rfl) ?_
  first | refine tk (i := 37) rfl (by kernel_rfl) rfl H (fun w' H => r_nc rfl) ?_ | refine tk (i := 37) rfl (by kernel_rfl) rfl H (fun w' H => r_nci rfl) ?_
  refine tk (i := 38) rfl (by kernel_rfl) rfl H (fun w' H => r_fa rfl fo75_9) ?_
  first | refine tk (i := 39) rfl (by kernel_rfl) rfl H (fun w' H => r_ldb H rfl sc5 (by omega)) ?_ | refine tk (i := 39) rfl (by kernel_rfl) rfl H (fun w' H => r_ld H rfl sc5 rfl) ?_ | refine tk (i := 39) rfl (by kernel_rfl) rfl H (fun w' H => r_lc rfl (by assumption) sc5) ?_
  refine tk (i := 40) rfl (by kernel_rfl) rfl H (fun w' H => r_mv (v := .pointer _) rfl) ?_
  first | refine tk (i := 41) rfl (by kernel_rfl) rfl H (fun w' H => r_nc rfl) ?_ | refine tk (i := 41) rfl (by kernel_rfl) rfl H (fun w' H => r_nci rfl) ?_
  refine tk (i := 42) rfl (by kernel_rfl) rfl H (fun w' H => r_fa rfl fo75_10) ?_
  first | refine tk (i := 43) rfl (by kernel_rfl) rfl H (fun w' H => r_ldb H rfl sc5 (by omega)) ?_ | refine tk (i := 43) rfl (by kernel_rfl) rfl H (fun w' H => r_ld H rfl sc5 rfl) ?_ | refine tk (i := 43) rfl (by kernel_rfl) rfl H (fun w' H => r_lc rfl (by assumption) sc5) ?_
  refine tkbu (out := ?o8) (i := 44) rfl (by kernel_rfl) rfl H ze24 bo24 ?f8 ?_
  case f8 =>
    refine FL.one (v := .int .u8 _) rfl pl24_0 rfl (by first | decide | simp) ?_
    refine FL.one (v := .int .u8 _) rfl pl24_1 rfl (by first | decide | simp) ?_
    refine FL.one (v := .int .u8 _) rfl pl24_2 rfl (by first | decide | simp) ?_
    refine FL.one (v := .int .u8 _) rfl pl24_3 rfl (by first | decide | simp) ?_
    refine FL.one (v := .int .u8 _) rfl pl24_4 rfl (by first | decide | simp) ?_
    refine FL.one (v := .int .u8 _) rfl pl24_5 rfl (by first | decide | simp) ?_
    exact FL.nil
  refine tkbu (out := ?o9) (i := 45) rfl (by kernel_rfl) rfl H ze26 bo26 ?f9 ?_
  case f9 =>
    refine FL.one (v := .int .i64 _) rfl pl26_0 rfl (by first | decide | simp) ?_
    refine FL.one (v := .bool _) rfl pl26_1 rfl (by first | decide | simp) ?_
    refine FL.one (v := .int .u8 _) rfl pl26_2 rfl (by first | decide | simp) ?_
    refine FL.one (v := .int .u32 _) rfl pl26_3 rfl (by first | decide | simp) ?_
    refine FL.one (v := .int .u32 _) rfl pl26_4 rfl (by first | decide | simp) ?_
    refine FL.agg rfl pl26_5 rfl (by first | decide | simp) ?_
    exact FL.nil
  refine fb (i := 46) (by kernel_rfl) rfl rfl rfl ?_
  refine sa H rfl rfl ag26_11 rfl rfl (by decide) (by omega) rfl ?_
  clear H; intro w2 H _
  refine nl ?_
  refine then_n ?_
  refine dn (by kernel_rfl) ?_
  refine then_n ?_
  refine rt ?_
  refine finR_r ?_
  exact ⟨[_], ⟨finC rfl (H.get _ (.head _)) ag26_11, trivial⟩, rfl, H.fr⟩

end Go.Proofs.Ytdoiddkogigppaa.X
