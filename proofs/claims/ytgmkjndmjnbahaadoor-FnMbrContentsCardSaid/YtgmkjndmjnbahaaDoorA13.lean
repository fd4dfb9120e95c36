/- Walks of functions, printed by a program of this claim. -/
import Derived.Test.YtgmkjndmjnbahaaDoorA12
namespace Go.Proofs.YtgmkjndmjnbahaaDoor.X
set_option linter.unusedVariables false
set_option linter.unusedSimpArgs false
open Go Go.RowKit

namespace A13
theorem bo28 : buildOK Tryd.prog 28 = true := by kernel_rfl
theorem bo29 : buildOK Tryd.prog 29 = true := by kernel_rfl
theorem ca15 : callable Tryd.prog 15 = true := by kernel_rfl
theorem ca5 : callable Tryd.prog 5 = true := by kernel_rfl
theorem fo28_2 : fieldOff Tryd.prog 28 2 = some 2 := by kernel_rfl
theorem fo28_3 : fieldOff Tryd.prog 28 3 = some 3 := by kernel_rfl
theorem mi5 : elemInfo Tryd.prog 5 = some (.int .u8 0, 1) := by kernel_rfl
theorem pl28_2 : placeOf Tryd.prog 28 2 = some (2, 1) := by kernel_rfl
theorem pl28_3 : placeOf Tryd.prog 28 3 = some (3, 1) := by kernel_rfl
theorem pl28_4 : placeOf Tryd.prog 28 4 = some (4, 1) := by kernel_rfl
theorem pl29_0 : placeOf Tryd.prog 29 0 = some (0, 11) := by kernel_rfl
theorem sc25 : scalarB Tryd.prog 25 = true := by kernel_rfl
theorem sc5 : scalarB Tryd.prog 5 = true := by kernel_rfl
theorem sz28_11 : sizeB Tryd.prog 28 11 = true := by kernel_rfl
theorem sz5_1 : sizeB Tryd.prog 5 1 = true := by kernel_rfl
theorem ze28 : zeroL Tryd.prog 28 = some [.int .i64 0, .bool false, .int .u8 0, .int .u32 0, .int .u32 0, .int .u8 0, .int .u8 0, .int .u8 0, .int .u8 0, .int .u8 0, .int .u8 0] := by kernel_rfl
theorem ze29 : zeroL Tryd.prog 29 = some [.int .i64 0, .bool false, .int .u8 0, .int .u32 0, .int .u32 0, .int .u8 0, .int .u8 0, .int .u8 0, .int .u8 0, .int .u8 0, .int .u8 0, .int .i64 0, .bool false, .int .u8 0, .int .u32 0, .int .u32 0, .int .u8 0, .int .u8 0, .int .u8 0, .int .u8 0, .int .u8 0, .int .u8 0, .int .i64 0, .bool false, .int .u8 0, .int .u32 0, .int .u32 0, .int .u8 0, .int .u8 0, .int .u8 0, .int .u8 0, .int .u8 0, .int .u8 0, .int .i64 0, .bool false, .int .u8 0, .int .u32 0, .int .u32 0, .int .u8 0, .int .u8 0, .int .u8 0, .int .u8 0, .int .u8 0, .int .u8 0] := by kernel_rfl

end A13
open A13

theorem q0_ok : MP.ok ⟨0, false, 131, 1, 1, 0, 0, 0, 0, 0, 0⟩ := by constructor <;> decide

set_option maxRecDepth 100000 in
set_option maxHeartbeats 1000000 in
theorem c_partAwake (w : World)  : Calls Tryd.prog 8 #[] w (Ret fun v w' => v = .bool true ∧ Fr [] w w') := by
  refine enter (fun ρ => ρ 0) Tryd.func8 rfl rfl rfl (res1 rfl) ?_
  have H := SH.nil w
  refine sq ?_
  refine rg ?_
  refine asg (v := .bool _) rfl rfl ?_
  refine nl ?_
  refine then_n ?_
  refine sq ?_
  refine rg ?_
  refine mkB H rfl rfl Tryd.underlying23 mi5 (by omega) (by omega) (by omega) (by omega) rfl ?_
  clear H; intro b1 w1 hb1 H _
  refine asg (v := .slice _ _ _) rfl rfl ?_
  refine nl ?_
  refine then_n ?_
  refine sq ?_
  refine rg ?_
  refine mv (v := .slice _ _ _) rfl rfl ?_
  refine slh rfl rfl Tryd.underlying23 sz5_1 (by first | trivial | omega | (simp; omega)) rfl ?_
  refine bu (out := ?o1) ze28 bo28 ?f1 rfl ?_
  case f1 =>
    refine FL.one (v := .int .u8 _) rfl pl28_2 rfl (by first | decide | simp) ?_
    refine FL.one (v := .int .u32 _) rfl pl28_3 rfl (by first | decide | simp) ?_
    refine FL.one (v := .int .u32 _) rfl pl28_4 rfl (by first | decide | simp) ?_
    exact FL.nil
  refine bu (out := ?o2) ze29 bo29 ?f2 rfl ?_
  case f2 =>
    refine FL.agg rfl pl29_0 rfl (by first | decide | simp) ?_
    exact FL.nil
  refine cl ca5 (c_mbrEncode _ _ _ _ _ _ [(⟨0, false, 131, 1, 1, 0, 0, 0, 0, 0, 0⟩ : MP), .zero, .zero, .zero] H.look (by simp) (by decide) (by decide) rfl (by simp [MP.zero_ok, q0_ok])) rfl ?_
  rintro _ w2 ⟨rfl, hlen, F, hnew⟩
  replace H := H.put F hnew; clear F hnew
  refine nl ?_
  refine then_n ?_
  refine sq ?_
  refine rg ?_
  refine mv (v := .slice _ _ _) rfl rfl ?_
  refine cl ca15 (c_MbrRead_yes _ _ 1024 1024 (mbrB (List.replicate 1024 0) [(⟨0, false, 131, 1, 1, 0, 0, 0, 0, 0, 0⟩ : MP), .zero, .zero, .zero]) (RB.allm H (by rw [mbrB_len rfl (by simp)]; simp)) ⟨by omega, by omega⟩ (flags_take (mbr_flags rfl (by simp))) ((sig_take _).trans (sigB_mbr rfl (by simp)))) rfl ?_
  rintro _ w3 ⟨A2, cap2, u2, rfl, hM, F⟩
  replace H := H.keep F; clear F
  refine mv (v := .tuple _) rfl rfl ?_
  refine xt rfl rfl rfl ?_
  refine xt rfl rfl rfl ?_
  refine xt rfl rfl rfl ?_
  refine asg (v := .slice _ _ _) rfl rfl ?_
  refine asg (v := .string _) rfl rfl ?_
  refine asg (v := .bool _) rfl rfl ?_
  refine nl ?_
  refine then_n ?_
  refine sq ?_
  refine rg ?_
  rw [mpsOf_take] at hM
  have hq : mpsOf (mbrB (List.replicate 1024 0) [(⟨0, false, 131, 1, 1, 0, 0, 0, 0, 0, 0⟩ : MP), .zero, .zero, .zero]) = { (⟨0, false, 131, 1, 1, 0, 0, 0, 0, 0, 0⟩ : MP) with ix := 1 } :: [mpAt (mbrB (List.replicate 1024 0) [(⟨0, false, 131, 1, 1, 0, 0, 0, 0, 0, 0⟩ : MP), .zero, .zero, .zero]) 462 2, mpAt (mbrB (List.replicate 1024 0) [(⟨0, false, 131, 1, 1, 0, 0, 0, 0, 0, 0⟩ : MP), .zero, .zero, .zero]) 478 3, mpAt (mbrB (List.replicate 1024 0) [(⟨0, false, 131, 1, 1, 0, 0, 0, 0, 0, 0⟩ : MP), .zero, .zero, .zero]) 494 4] := by
    unfold mpsOf
    rw [show mpAt (mbrB (List.replicate 1024 0) [(⟨0, false, 131, 1, 1, 0, 0, 0, 0, 0, 0⟩ : MP), .zero, .zero, .zero]) 446 1 = _ from mpAt_mbr (i := 0) 1 rfl rfl (by simp) q0_ok]
    rfl
  rw [hq] at hM
  obtain ⟨ad, rfl, hc2⟩ := hM.at' 2 (.int .u8 131) rfl
  obtain ⟨ad', he, hc3⟩ := hM.at' 3 (.int .u32 1) rfl
  cases he
  refine mv (v := .bool _) rfl rfl ?_
  refine mv (v := .bool _) rfl rfl ?_
  first | refine spL (t := 18) (b := true) rfl ?_ | refine spT (t := 18) rfl rfl ?_   -- guard 1
  refine gy rfl ?_
  refine mv (v := .slice _ _ _) rfl rfl ?_
  refine gy rfl ?_
  refine lnS rfl Tryd.underlying59 rfl ?_
  refine gy rfl ?_
  refine gtr rfl rfl rfl ?_
  refine pkT (v := .bool _) rfl rfl rfl ?_
  refine mv (v := .bool _) rfl rfl ?_
  first | refine spL (t := 23) (b := true) rfl ?_ | refine spT (t := 23) rfl (by decide) ?_   -- guard 2
  refine gy rfl ?_
  refine mv (v := .slice _ _ _) rfl rfl ?_
  refine gy rfl ?_
  refine iBN ad rfl rfl Tryd.underlying59 sz28_11 (by omega) (by simp [Addr.add]) rfl ?_
  refine gy rfl ?_
  first | refine fa rfl fo28_2 rfl ?_ | refine faG rfl fo28_2 rfl ?_
  refine gy rfl ?_
  first | (refine ldb H rfl sc5 (by omega) rfl ?_; intro hu3) | refine ld H rfl sc5 rfl rfl ?_ | refine lc rfl (by first | assumption | exact H.fr.cell (by assumption) (by simp)) sc5 rfl ?_
  refine gy rfl ?_
  refine eql rfl rfl rfl ?_
  refine pkT (v := .bool _) rfl rfl rfl ?_
  refine mv (v := .bool _) rfl rfl ?_
  first | refine spL (t := 30) (b := true) rfl ?_ | refine spT (t := 30) rfl rfl ?_   -- guard 3
  refine gy rfl ?_
  refine mv (v := .slice _ _ _) rfl rfl ?_
  refine gy rfl ?_
  refine iBN ad rfl rfl Tryd.underlying59 sz28_11 (by omega) (by simp [Addr.add]) rfl ?_
  refine gy rfl ?_
  first | refine fa rfl fo28_3 rfl ?_ | refine faG rfl fo28_3 rfl ?_
  refine gy rfl ?_
  first | refine ld H rfl sc25 rfl rfl ?_ | refine lc rfl (by first | assumption | exact H.fr.cell (by assumption) (by simp)) sc25 rfl ?_ | refine ld H rfl sc25 (by assumption) rfl ?_
  refine gy rfl ?_
  refine eql rfl rfl rfl ?_
  refine pkT (v := .bool _) rfl rfl rfl ?_
  refine asg (v := .bool _) rfl rfl ?_
  refine nl ?_
  refine then_n ?_
  refine rt ?_
  refine fin_r ?_
  exact ⟨congrArg Value.bool (decide_eq_true rfl), H.fr⟩

end Go.Proofs.YtgmkjndmjnbahaaDoor.X
