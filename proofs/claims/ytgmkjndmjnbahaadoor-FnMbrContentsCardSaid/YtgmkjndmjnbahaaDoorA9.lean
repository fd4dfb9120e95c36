/- Walks of functions, printed by a program of this claim. -/
import Derived.Test.YtgmkjndmjnbahaaDoorA8
namespace Go.Proofs.YtgmkjndmjnbahaaDoor.X
set_option linter.unusedVariables false
set_option linter.unusedSimpArgs false
open Go Go.RowKit

namespace A9
theorem ag28_11 : aggB Tryd.prog 28 11 = true := by kernel_rfl
theorem bo26 : buildOK Tryd.prog 26 = true := by kernel_rfl
theorem bo28 : buildOK Tryd.prog 28 = true := by kernel_rfl
theorem fo76_0 : fieldOff Tryd.prog 76 0 = some 0 := by kernel_rfl
theorem fo76_1 : fieldOff Tryd.prog 76 1 = some 1 := by kernel_rfl
theorem fo76_10 : fieldOff Tryd.prog 76 10 = some 10 := by kernel_rfl
theorem fo76_2 : fieldOff Tryd.prog 76 2 = some 2 := by kernel_rfl
theorem fo76_3 : fieldOff Tryd.prog 76 3 = some 3 := by kernel_rfl
theorem fo76_4 : fieldOff Tryd.prog 76 4 = some 4 := by kernel_rfl
theorem fo76_5 : fieldOff Tryd.prog 76 5 = some 5 := by kernel_rfl
theorem fo76_6 : fieldOff Tryd.prog 76 6 = some 6 := by kernel_rfl
theorem fo76_7 : fieldOff Tryd.prog 76 7 = some 7 := by kernel_rfl
theorem fo76_8 : fieldOff Tryd.prog 76 8 = some 8 := by kernel_rfl
theorem fo76_9 : fieldOff Tryd.prog 76 9 = some 9 := by kernel_rfl
theorem pl26_0 : placeOf Tryd.prog 26 0 = some (0, 1) := by kernel_rfl
theorem pl26_1 : placeOf Tryd.prog 26 1 = some (1, 1) := by kernel_rfl
theorem pl26_2 : placeOf Tryd.prog 26 2 = some (2, 1) := by kernel_rfl
theorem pl26_3 : placeOf Tryd.prog 26 3 = some (3, 1) := by kernel_rfl
theorem pl26_4 : placeOf Tryd.prog 26 4 = some (4, 1) := by kernel_rfl
theorem pl26_5 : placeOf Tryd.prog 26 5 = some (5, 1) := by kernel_rfl
theorem pl28_0 : placeOf Tryd.prog 28 0 = some (0, 1) := by kernel_rfl
theorem pl28_1 : placeOf Tryd.prog 28 1 = some (1, 1) := by kernel_rfl
theorem pl28_2 : placeOf Tryd.prog 28 2 = some (2, 1) := by kernel_rfl
theorem pl28_3 : placeOf Tryd.prog 28 3 = some (3, 1) := by kernel_rfl
theorem pl28_4 : placeOf Tryd.prog 28 4 = some (4, 1) := by kernel_rfl
theorem pl28_5 : placeOf Tryd.prog 28 5 = some (5, 6) := by kernel_rfl
theorem sc25 : scalarB Tryd.prog 25 = true := by kernel_rfl
theorem sc3 : scalarB Tryd.prog 3 = true := by kernel_rfl
theorem sc4 : scalarB Tryd.prog 4 = true := by kernel_rfl
theorem sc5 : scalarB Tryd.prog 5 = true := by kernel_rfl
theorem sc74 : scalarB Tryd.prog 74 = true := by kernel_rfl
theorem ze26 : zeroL Tryd.prog 26 = some [.int .u8 0, .int .u8 0, .int .u8 0, .int .u8 0, .int .u8 0, .int .u8 0] := by kernel_rfl
theorem ze28 : zeroL Tryd.prog 28 = some [.int .i64 0, .bool false, .int .u8 0, .int .u32 0, .int .u32 0, .int .u8 0, .int .u8 0, .int .u8 0, .int .u8 0, .int .u8 0, .int .u8 0] := by kernel_rfl

end A9
open A9

set_option maxRecDepth 100000 in
set_option maxHeartbeats 1000000 in
theorem c_mbrTold (w : World) (p : Nat) (q : MP) (y1 y2 y3 : Value) (hp : w.heap[p]? = some (.cells (q.cells ++ [y1, y2, y3]).toArray 76 (0, 0))) : Calls Tryd.prog 20 #[.pointer (some ⟨p, 0, none⟩)] w (Ret fun v w' => v = .agg q.cells.toArray ∧ Fr [] w w') := by
  refine enterR [.cell 2 28] Tryd.func20 rfl rfl rfl rfl ?_
  have H := SH.ro1 hp
  refine sq ?_
  refine rg ?_
  refine al H ze28 rfl ?_
  clear H; intro b1 w1 hb1 H _
  refine nl ?_
  refine then_n ?_
  refine sq ?_
  refine dr (by kernel_rfl) ?_   -- region 1
  have H := H.drew
  refine holdH H [46] ?_
  refine tk (i := 0) rfl (by kernel_rfl) rfl H (fun w' H => r_mv (v := .pointer _) rfl) ?_
  first | refine tk (i := 1) rfl (by kernel_rfl) rfl H (fun w' H => r_nc rfl) ?_ | refine tk (i := 1) rfl (by kernel_rfl) rfl H (fun w' H => r_nci rfl) ?_
  refine tk (i := 2) rfl (by kernel_rfl) rfl H (fun w' H => r_fa rfl fo76_0) ?_
  first | refine tk (i := 3) rfl (by kernel_rfl) rfl H (fun w' H => r_ld H rfl sc3 rfl) ?_ | refine tk (i := 3) rfl (by kernel_rfl) rfl H (fun w' H => r_lc rfl (by first | assumption | exact H.fr.cell (by assumption) (by simp)) sc3) ?_ | refine tk (i := 3) rfl (by kernel_rfl) rfl H (fun w' H => r_ld H rfl sc3 (by assumption)) ?_
  refine tk (i := 4) rfl (by kernel_rfl) rfl H (fun w' H => r_mv (v := .pointer _) rfl) ?_
  first | refine tk (i := 5) rfl (by kernel_rfl) rfl H (fun w' H => r_nc rfl) ?_ | refine tk (i := 5) rfl (by kernel_rfl) rfl H (fun w' H => r_nci rfl) ?_
  refine tk (i := 6) rfl (by kernel_rfl) rfl H (fun w' H => r_fa rfl fo76_1) ?_
  first | refine tk (i := 7) rfl (by kernel_rfl) rfl H (fun w' H => r_ld H rfl sc4 rfl) ?_ | refine tk (i := 7) rfl (by kernel_rfl) rfl H (fun w' H => r_lc rfl (by first | assumption | exact H.fr.cell (by assumption) (by simp)) sc4) ?_ | refine tk (i := 7) rfl (by kernel_rfl) rfl H (fun w' H => r_ld H rfl sc4 (by assumption)) ?_
  refine tk (i := 8) rfl (by kernel_rfl) rfl H (fun w' H => r_mv (v := .pointer _) rfl) ?_
  first | refine tk (i := 9) rfl (by kernel_rfl) rfl H (fun w' H => r_nc rfl) ?_ | refine tk (i := 9) rfl (by kernel_rfl) rfl H (fun w' H => r_nci rfl) ?_
  refine tk (i := 10) rfl (by kernel_rfl) rfl H (fun w' H => r_fa rfl fo76_2) ?_
  first | refine tk (i := 11) rfl (by kernel_rfl) rfl H (fun w' H => r_ldb H rfl sc74 (by omega)) ?_ | refine tk (i := 11) rfl (by kernel_rfl) rfl H (fun w' H => r_ld H rfl sc74 rfl) ?_ | refine tk (i := 11) rfl (by kernel_rfl) rfl H (fun w' H => r_lc rfl (by first | assumption | exact H.fr.cell (by assumption) (by simp)) sc74) ?_
  refine tk (i := 12) rfl (by kernel_rfl) rfl H (fun w' H => r_mv (v := .pointer _) rfl) ?_
  first | refine tk (i := 13) rfl (by kernel_rfl) rfl H (fun w' H => r_nc rfl) ?_ | refine tk (i := 13) rfl (by kernel_rfl) rfl H (fun w' H => r_nci rfl) ?_
  refine tk (i := 14) rfl (by kernel_rfl) rfl H (fun w' H => r_fa rfl fo76_3) ?_
  first | refine tk (i := 15) rfl (by kernel_rfl) rfl H (fun w' H => r_ld H rfl sc25 rfl) ?_ | refine tk (i := 15) rfl (by kernel_rfl) rfl H (fun w' H => r_lc rfl (by first | assumption | exact H.fr.cell (by assumption) (by simp)) sc25) ?_ | refine tk (i := 15) rfl (by kernel_rfl) rfl H (fun w' H => r_ld H rfl sc25 (by assumption)) ?_
  refine tk (i := 16) rfl (by kernel_rfl) rfl H (fun w' H => r_mv (v := .pointer _) rfl) ?_
  first | refine tk (i := 17) rfl (by kernel_rfl) rfl H (fun w' H => r_nc rfl) ?_ | refine tk (i := 17) rfl (by kernel_rfl) rfl H (fun w' H => r_nci rfl) ?_
  refine tk (i := 18) rfl (by kernel_rfl) rfl H (fun w' H => r_fa rfl fo76_4) ?_
  first | refine tk (i := 19) rfl (by kernel_rfl) rfl H (fun w' H => r_ld H rfl sc25 rfl) ?_ | refine tk (i := 19) rfl (by kernel_rfl) rfl H (fun w' H => r_lc rfl (by first | assumption | exact H.fr.cell (by assumption) (by simp)) sc25) ?_ | refine tk (i := 19) rfl (by kernel_rfl) rfl H (fun w' H => r_ld H rfl sc25 (by assumption)) ?_
  refine tk (i := 20) rfl (by kernel_rfl) rfl H (fun w' H => r_mv (v := .pointer _) rfl) ?_
  first | refine tk (i := 21) rfl (by kernel_rfl) rfl H (fun w' H => r_nc rfl) ?_ | refine tk (i := 21) rfl (by kernel_rfl) rfl H (fun w' H => r_nci rfl) ?_
  refine tk (i := 22) rfl (by kernel_rfl) rfl H (fun w' H => r_fa rfl fo76_5) ?_
  first | refine tk (i := 23) rfl (by kernel_rfl) rfl H (fun w' H => r_ldb H rfl sc5 (by omega)) ?_ | refine tk (i := 23) rfl (by kernel_rfl) rfl H (fun w' H => r_ld H rfl sc5 rfl) ?_ | refine tk (i := 23) rfl (by kernel_rfl) rfl H (fun w' H => r_lc rfl (by first | assumption | exact H.fr.cell (by assumption) (by simp)) sc5) ?_
  refine tk (i := 24) rfl (by kernel_rfl) rfl H (fun w' H => r_mv (v := .pointer _) rfl) ?_
  first | refine tk (i := 25) rfl (by kernel_rfl) rfl H (fun w' H => r_nc rfl) ?_ | refine tk (i := 25) rfl (by kernel_rfl) rfl H (fun w' H => r_nci rfl) ?_
  refine tk (i := 26) rfl (by kernel_rfl) rfl H (fun w' H => r_fa rfl fo76_6) ?_
  first | refine tk (i := 27) rfl (by kernel_rfl) rfl H (fun w' H => r_ldb H rfl sc5 (by omega)) ?_ | refine tk (i := 27) rfl (by kernel_rfl) rfl H (fun w' H => r_ld H rfl sc5 rfl) ?_ | refine tk (i := 27) rfl (by kernel_rfl) rfl H (fun w' H => r_lc rfl (by first | assumption | exact H.fr.cell (by assumption) (by simp)) sc5) ?_
  refine tk (i := 28) rfl (by kernel_rfl) rfl H (fun w' H => r_mv (v := .pointer _) rfl) ?_
  first | refine tk (i := 29) rfl (by kernel_rfl) rfl H (fun w' H => r_nc rfl) ?_ | refine tk (i := 29) rfl (by kernel_rfl) rfl H (fun w' H => r_nci rfl) ?_
  refine tk (i := 30) rfl (by kernel_rfl) rfl H (fun w' H => r_fa rfl fo76_7) ?_
  first | refine tk (i := 31) rfl (by kernel_rfl) rfl H (fun w' H => r_ldb H rfl sc5 (by omega)) ?_ | refine tk (i := 31) rfl (by kernel_rfl) rfl H (fun w' H => r_ld H rfl sc5 rfl) ?_ | refine tk (i := 31) rfl (by kernel_rfl) rfl H (fun w' H => r_lc rfl (by first | assumption | exact H.fr.cell (by assumption) (by simp)) sc5) ?_
  refine tk (i := 32) rfl (by kernel_rfl) rfl H (fun w' H => r_mv (v := .pointer _) rfl) ?_
  first | refine tk (i := 33) rfl (by kernel_rfl) rfl H (fun w' H => r_nc rfl) ?_ | refine tk (i := 33) rfl (by kernel_rfl) rfl H (fun w' H => r_nci rfl) ?_
  refine tk (i := 34) rfl (by kernel_rfl) rfl H (fun w' H => r_fa rfl fo76_8) ?_
  first | refine tk (i := 35) rfl (by kernel_rfl) rfl H (fun w' H => r_ldb H rfl sc5 (by omega)) ?_ | refine tk (i := 35) rfl (by kernel_rfl) rfl H (fun w' H => r_ld H rfl sc5 rfl) ?_ | refine tk (i := 35) rfl (by kernel_rfl) rfl H (fun w' H => r_lc rfl (by first | assumption | exact H.fr.cell (by assumption) (by simp)) sc5) ?_
  refine tk (i := 36) rfl (by kernel_rfl) rfl H (fun w' H => r_mv (v := .pointer _) rfl) ?_
  first | refine tk (i := 37) rfl (by kernel_rfl) rfl H (fun w' H => r_nc rfl) ?_ | refine tk (i := 37) rfl (by kernel_rfl) rfl H (fun w' H => r_nci rfl) ?_
  refine tk (i := 38) rfl (by kernel_rfl) rfl H (fun w' H => r_fa rfl fo76_9) ?_
  first | refine tk (i := 39) rfl (by kernel_rfl) rfl H (fun w' H => r_ldb H rfl sc5 (by omega)) ?_ | refine tk (i := 39) rfl (by kernel_rfl) rfl H (fun w' H => r_ld H rfl sc5 rfl) ?_ | refine tk (i := 39) rfl (by kernel_rfl) rfl H (fun w' H => r_lc rfl (by first | assumption | exact H.fr.cell (by assumption) (by simp)) sc5) ?_
  refine tk (i := 40) rfl (by kernel_rfl) rfl H (fun w' H => r_mv (v := .pointer _) rfl) ?_
  first | refine tk (i := 41) rfl (by kernel_rfl) rfl H (fun w' H => r_nc rfl) ?_ | refine tk (i := 41) rfl (by kernel_rfl) rfl H (fun w' H => r_nci rfl) ?_
  refine tk (i := 42) rfl (by kernel_rfl) rfl H (fun w' H => r_fa rfl fo76_10) ?_
  first | refine tk (i := 43) rfl (by kernel_rfl) rfl H (fun w' H => r_ldb H rfl sc5 (by omega)) ?_ | refine tk (i := 43) rfl (by kernel_rfl) rfl H (fun w' H => r_ld H rfl sc5 rfl) ?_ | refine tk (i := 43) rfl (by kernel_rfl) rfl H (fun w' H => r_lc rfl (by first | assumption | exact H.fr.cell (by assumption) (by simp)) sc5) ?_
  refine tkbu (out := ?o8) (i := 44) rfl (by kernel_rfl) rfl H ze26 bo26 ?f8 ?_
  case f8 =>
    refine FL.one (v := .int .u8 _) rfl pl26_0 rfl (by first | decide | simp) ?_
    refine FL.one (v := .int .u8 _) rfl pl26_1 rfl (by first | decide | simp) ?_
    refine FL.one (v := .int .u8 _) rfl pl26_2 rfl (by first | decide | simp) ?_
    refine FL.one (v := .int .u8 _) rfl pl26_3 rfl (by first | decide | simp) ?_
    refine FL.one (v := .int .u8 _) rfl pl26_4 rfl (by first | decide | simp) ?_
    refine FL.one (v := .int .u8 _) rfl pl26_5 rfl (by first | decide | simp) ?_
    exact FL.nil
  refine tkbu (out := ?o9) (i := 45) rfl (by kernel_rfl) rfl H ze28 bo28 ?f9 ?_
  case f9 =>
    refine FL.one (v := .int .i64 _) rfl pl28_0 rfl (by first | decide | simp) ?_
    refine FL.one (v := .bool _) rfl pl28_1 rfl (by first | decide | simp) ?_
    refine FL.one (v := .int .u8 _) rfl pl28_2 rfl (by first | decide | simp) ?_
    refine FL.one (v := .int .u32 _) rfl pl28_3 rfl (by first | decide | simp) ?_
    refine FL.one (v := .int .u32 _) rfl pl28_4 rfl (by first | decide | simp) ?_
    refine FL.agg rfl pl28_5 rfl (by first | decide | simp) ?_
    exact FL.nil
  refine fb (i := 46) (by kernel_rfl) rfl rfl rfl ?_
  refine sa H rfl rfl ag28_11 rfl rfl (by decide) (by omega) rfl ?_
  clear H; intro w2 H _
  refine nl ?_
  refine then_n ?_
  refine dn (by kernel_rfl) ?_
  refine then_n ?_
  refine rt ?_
  refine finR_r ?_
  exact ⟨[_], ⟨finC rfl (H.get _ (.head _)) ag28_11, trivial⟩, rfl, H.fr⟩

end Go.Proofs.YtgmkjndmjnbahaaDoor.X
