/- Walks of functions, printed by a program of this claim. -/
import Derived.Test.YtgmkjndmjnbahaaDoorA5
namespace Go.Proofs.YtgmkjndmjnbahaaDoor.X
set_option linter.unusedVariables false
set_option linter.unusedSimpArgs false
open Go Go.RowKit

namespace A6
theorem ag105_0 : aggB Tryd.prog 105 0 = true := by kernel_rfl
theorem bo76 : buildOK Tryd.prog 76 = true := by kernel_rfl
theorem ca29 : callable Tryd.prog 29 = true := by kernel_rfl
theorem pl76_0 : placeOf Tryd.prog 76 0 = some (0, 1) := by kernel_rfl
theorem pl76_1 : placeOf Tryd.prog 76 1 = some (1, 1) := by kernel_rfl
theorem pl76_10 : placeOf Tryd.prog 76 10 = some (10, 1) := by kernel_rfl
theorem pl76_11 : placeOf Tryd.prog 76 11 = some (11, 1) := by kernel_rfl
theorem pl76_12 : placeOf Tryd.prog 76 12 = some (12, 1) := by kernel_rfl
theorem pl76_2 : placeOf Tryd.prog 76 2 = some (2, 1) := by kernel_rfl
theorem pl76_3 : placeOf Tryd.prog 76 3 = some (3, 1) := by kernel_rfl
theorem pl76_4 : placeOf Tryd.prog 76 4 = some (4, 1) := by kernel_rfl
theorem pl76_5 : placeOf Tryd.prog 76 5 = some (5, 1) := by kernel_rfl
theorem pl76_6 : placeOf Tryd.prog 76 6 = some (6, 1) := by kernel_rfl
theorem pl76_7 : placeOf Tryd.prog 76 7 = some (7, 1) := by kernel_rfl
theorem pl76_8 : placeOf Tryd.prog 76 8 = some (8, 1) := by kernel_rfl
theorem pl76_9 : placeOf Tryd.prog 76 9 = some (9, 1) := by kernel_rfl
theorem sc5 : scalarB Tryd.prog 5 = true := by kernel_rfl
theorem sz5_1 : sizeB Tryd.prog 5 1 = true := by kernel_rfl
theorem ze76 : zeroL Tryd.prog 76 = some [.int .i64 0, .bool false, .int .u8 0, .int .u32 0, .int .u32 0, .int .u8 0, .int .u8 0, .int .u8 0, .int .u8 0, .int .u8 0, .int .u8 0, .int .i64 0, .int .i64 0, .string ⟨#[]⟩] := by kernel_rfl

end A6
open A6

set_option maxRecDepth 100000 in
set_option maxHeartbeats 1000000 in
theorem c_partFrom (w : World) (k : Int) (b o c : Nat) (T : TypeId) (fr : Nat × Nat) (cur : List UInt8) (hb : w.heap[b]? = some (.cells (Bs cur).toArray T fr)) (hc : 16 ≤ c) (ho : o + 16 ≤ cur.length) (h0 : ((cur.getD (o + (0 : Int).toNat * 1) 0).toNat : Int) = 0 ∨ ((cur.getD (o + (0 : Int).toNat * 1) 0).toNat : Int) = 128) : Calls Tryd.prog 26 #[.int .i64 k, .slice (some ⟨b, o, none⟩) 16 c, .int .i64 512, .int .i64 512] w (Ret fun v w' => (∃ p, v = .tuple #[.pointer (some ⟨p, 0, none⟩), .nilIface] ∧ w.heap.size ≤ p ∧ w'.heap[p]? = some (.cells ([.int .i64 k, .bool (decide (((cur.getD (o + (0 : Int).toNat * 1) 0).toNat : Int) = 128)), .int .u8 ((cur.getD (o + (4 : Int).toNat * 1) 0).toNat : Int), .int .u32 (leV ((cur.drop (o + (8 : Int).toNat * 1)).take 4)), .int .u32 (leV ((cur.drop (o + (12 : Int).toNat * 1)).take 4)), .int .u8 ((cur.getD (o + (3 : Int).toNat * 1) 0).toNat : Int), .int .u8 ((cur.getD (o + (1 : Int).toNat * 1) 0).toNat : Int), .int .u8 ((cur.getD (o + (2 : Int).toNat * 1) 0).toNat : Int), .int .u8 ((cur.getD (o + (7 : Int).toNat * 1) 0).toNat : Int), .int .u8 ((cur.getD (o + (5 : Int).toNat * 1) 0).toNat : Int), .int .u8 ((cur.getD (o + (6 : Int).toNat * 1) 0).toNat : Int), .int .i64 512, .int .i64 512, .string (str [])]).toArray 76 (0, 0))) ∧ Fr [] w w') := by
  refine enter (fun ρ => .tuple #[ρ 8, ρ 9]) Tryd.func26 rfl rfl rfl (res2 rfl) ?_
  have H := SH.ro1 hb
  refine sq ?_
  refine rg ?_
  refine asg (v := .pointer _) rfl rfl ?_
  refine asg (v := .nilIface) rfl rfl ?_
  refine nl ?_
  refine then_n ?_
  refine sq ?_
  refine sq ?_
  refine rg ?_
  refine mv (v := .slice _ _ _) rfl rfl ?_
  refine lnS rfl Tryd.underlying23 rfl ?_
  refine neq rfl rfl rfl ?_
  refine nl ?_
  refine then_n ?_
  first | refine cF rfl (by omega) ?_ | refine cbF rfl (by omega) ?_   -- test 1
  refine sk ?_
  refine then_n ?_
  refine sq ?_
  refine rg ?_
  refine asg (v := .bool _) rfl rfl ?_
  refine nl ?_
  refine then_n ?_
  refine sq ?_
  refine sq ?_
  refine rg ?_
  refine mv (v := .slice _ _ _) rfl rfl ?_
  first | refine ia rfl rfl Tryd.underlying23 sz5_1 (by omega) rfl ?_ | refine iA rfl rfl Tryd.underlying23 sz5_1 (by omega) rfl ?_
  first | (refine ldb H rfl sc5 (by omega) rfl ?_; intro hu1) | refine ld H rfl sc5 rfl rfl ?_ | refine lc rfl (by first | assumption | exact H.fr.cell (by assumption) (by simp)) sc5 rfl ?_
  refine nl ?_
  refine then_n ?_
  refine bk ?_
  refine sq ?_
  refine rg ?_
  refine eql rfl rfl rfl ?_
  refine asg (v := .bool _) rfl rfl ?_
  refine nl ?_
  refine then_n ?_
  first | refine cd rfl (fun hc2 => ?_) (fun hc2 => ?_) | refine cn rfl (fun hc2 => ?_) (fun hc2 => ?_)   -- test 2
  · refine rg ?_
    refine asg (v := .bool _) rfl rfl ?_
    refine nl ?_
    refine in_n ?_
    refine then_n ?_
    refine sq ?_
    refine dr (by kernel_rfl) ?_   -- region 10
    have H := H.drew
    refine holdH H [] ?_
    refine tk (i := 0) rfl (by kernel_rfl) rfl H (fun w' H => r_mv (v := .int .i64 _) rfl) ?_
    refine tk (i := 1) rfl (by kernel_rfl) rfl H (fun w' H => r_mv (v := .bool _) rfl) ?_
    refine tk (i := 2) rfl (by kernel_rfl) rfl H (fun w' H => r_mv (v := .slice _ _ _) rfl) ?_
    first | refine tk (i := 3) rfl (by kernel_rfl) rfl H (fun w' H => r_ia rfl rfl Tryd.underlying23 sz5_1 (by omega)) ?_ | refine tk (i := 3) rfl (by kernel_rfl) rfl H (fun w' H => r_iA rfl rfl Tryd.underlying23 sz5_1 (by omega)) ?_
    first | refine tk (i := 4) rfl (by kernel_rfl) rfl H (fun w' H => r_ldb H rfl sc5 (by omega)) ?_ | refine tk (i := 4) rfl (by kernel_rfl) rfl H (fun w' H => r_ld H rfl sc5 rfl) ?_ | refine tk (i := 4) rfl (by kernel_rfl) rfl H (fun w' H => r_lc rfl (by first | assumption | exact H.fr.cell (by assumption) (by simp)) sc5) ?_
    refine tk (i := 5) rfl (by kernel_rfl) rfl H (fun w' H => r_mv (v := .slice _ _ _) rfl) ?_
    first | refine tk (i := 6) rfl (by kernel_rfl) rfl H (fun w' H => r_ia rfl rfl Tryd.underlying23 sz5_1 (by omega)) ?_ | refine tk (i := 6) rfl (by kernel_rfl) rfl H (fun w' H => r_iA rfl rfl Tryd.underlying23 sz5_1 (by omega)) ?_
    first | refine tk (i := 7) rfl (by kernel_rfl) rfl H (fun w' H => r_ldb H rfl sc5 (by omega)) ?_ | refine tk (i := 7) rfl (by kernel_rfl) rfl H (fun w' H => r_ld H rfl sc5 rfl) ?_ | refine tk (i := 7) rfl (by kernel_rfl) rfl H (fun w' H => r_lc rfl (by first | assumption | exact H.fr.cell (by assumption) (by simp)) sc5) ?_
    refine tk (i := 8) rfl (by kernel_rfl) rfl H (fun w' H => r_mv (v := .slice _ _ _) rfl) ?_
    first | refine tk (i := 9) rfl (by kernel_rfl) rfl H (fun w' H => r_ia rfl rfl Tryd.underlying23 sz5_1 (by omega)) ?_ | refine tk (i := 9) rfl (by kernel_rfl) rfl H (fun w' H => r_iA rfl rfl Tryd.underlying23 sz5_1 (by omega)) ?_
    first | refine tk (i := 10) rfl (by kernel_rfl) rfl H (fun w' H => r_ldb H rfl sc5 (by omega)) ?_ | refine tk (i := 10) rfl (by kernel_rfl) rfl H (fun w' H => r_ld H rfl sc5 rfl) ?_ | refine tk (i := 10) rfl (by kernel_rfl) rfl H (fun w' H => r_lc rfl (by first | assumption | exact H.fr.cell (by assumption) (by simp)) sc5) ?_
    refine tk (i := 11) rfl (by kernel_rfl) rfl H (fun w' H => r_mv (v := .slice _ _ _) rfl) ?_
    first | refine tk (i := 12) rfl (by kernel_rfl) rfl H (fun w' H => r_ia rfl rfl Tryd.underlying23 sz5_1 (by omega)) ?_ | refine tk (i := 12) rfl (by kernel_rfl) rfl H (fun w' H => r_iA rfl rfl Tryd.underlying23 sz5_1 (by omega)) ?_
    first | refine tk (i := 13) rfl (by kernel_rfl) rfl H (fun w' H => r_ldb H rfl sc5 (by omega)) ?_ | refine tk (i := 13) rfl (by kernel_rfl) rfl H (fun w' H => r_ld H rfl sc5 rfl) ?_ | refine tk (i := 13) rfl (by kernel_rfl) rfl H (fun w' H => r_lc rfl (by first | assumption | exact H.fr.cell (by assumption) (by simp)) sc5) ?_
    refine tk (i := 14) rfl (by kernel_rfl) rfl H (fun w' H => r_mv (v := .slice _ _ _) rfl) ?_
    first | refine tk (i := 15) rfl (by kernel_rfl) rfl H (fun w' H => r_ia rfl rfl Tryd.underlying23 sz5_1 (by omega)) ?_ | refine tk (i := 15) rfl (by kernel_rfl) rfl H (fun w' H => r_iA rfl rfl Tryd.underlying23 sz5_1 (by omega)) ?_
    first | refine tk (i := 16) rfl (by kernel_rfl) rfl H (fun w' H => r_ldb H rfl sc5 (by omega)) ?_ | refine tk (i := 16) rfl (by kernel_rfl) rfl H (fun w' H => r_ld H rfl sc5 rfl) ?_ | refine tk (i := 16) rfl (by kernel_rfl) rfl H (fun w' H => r_lc rfl (by first | assumption | exact H.fr.cell (by assumption) (by simp)) sc5) ?_
    refine tk (i := 17) rfl (by kernel_rfl) rfl H (fun w' H => r_mv (v := .slice _ _ _) rfl) ?_
    first | refine tk (i := 18) rfl (by kernel_rfl) rfl H (fun w' H => r_ia rfl rfl Tryd.underlying23 sz5_1 (by omega)) ?_ | refine tk (i := 18) rfl (by kernel_rfl) rfl H (fun w' H => r_iA rfl rfl Tryd.underlying23 sz5_1 (by omega)) ?_
    first | refine tk (i := 19) rfl (by kernel_rfl) rfl H (fun w' H => r_ldb H rfl sc5 (by omega)) ?_ | refine tk (i := 19) rfl (by kernel_rfl) rfl H (fun w' H => r_ld H rfl sc5 rfl) ?_ | refine tk (i := 19) rfl (by kernel_rfl) rfl H (fun w' H => r_lc rfl (by first | assumption | exact H.fr.cell (by assumption) (by simp)) sc5) ?_
    refine tk (i := 20) rfl (by kernel_rfl) rfl H (fun w' H => r_mv (v := .slice _ _ _) rfl) ?_
    first | refine tk (i := 21) rfl (by kernel_rfl) rfl H (fun w' H => r_ia rfl rfl Tryd.underlying23 sz5_1 (by omega)) ?_ | refine tk (i := 21) rfl (by kernel_rfl) rfl H (fun w' H => r_iA rfl rfl Tryd.underlying23 sz5_1 (by omega)) ?_
    first | refine tk (i := 22) rfl (by kernel_rfl) rfl H (fun w' H => r_ldb H rfl sc5 (by omega)) ?_ | refine tk (i := 22) rfl (by kernel_rfl) rfl H (fun w' H => r_ld H rfl sc5 rfl) ?_ | refine tk (i := 22) rfl (by kernel_rfl) rfl H (fun w' H => r_lc rfl (by first | assumption | exact H.fr.cell (by assumption) (by simp)) sc5) ?_
    refine tk (i := 23) rfl (by kernel_rfl) rfl H (fun w' H => r_lw (ad := ⟨1, 0, none⟩) (vs := []) rfl ag105_0 rfl (by simp)) ?_
    refine tk (i := 24) rfl (by kernel_rfl) rfl H (fun w' H => r_mv (v := .slice _ _ _) rfl) ?_
    refine tk (i := 25) rfl (by kernel_rfl) rfl H (fun w' H => r_sllh rfl rfl rfl Tryd.underlying23 sz5_1 (by first | trivial | omega | (simp; omega))) ?_
    refine tk (i := 27) rfl (by kernel_rfl) rfl H (fun w' H => r_lw (ad := ⟨1, 0, none⟩) (vs := []) rfl ag105_0 rfl (by simp)) ?_
    refine tk (i := 28) rfl (by kernel_rfl) rfl H (fun w' H => r_mv (v := .slice _ _ _) rfl) ?_
    refine tk (i := 29) rfl (by kernel_rfl) rfl H (fun w' H => r_sllh rfl rfl rfl Tryd.underlying23 sz5_1 (by first | trivial | omega | (simp; omega))) ?_
    refine tk (i := 31) rfl (by kernel_rfl) rfl H (fun w' H => r_mv (v := .int .i64 _) rfl) ?_
    refine tk (i := 32) rfl (by kernel_rfl) rfl H (fun w' H => r_mv (v := .int .i64 _) rfl) ?_
    refine fk (i := 26) (by kernel_rfl) rfl rfl rfl ?_
    refine cl ca29 (c_uint32 _ _ _ _ _ _ _ _ H.look (by omega) (by omega)) rfl ?_
    rintro _ w1 ⟨rfl, F⟩
    replace H := H.keep F; clear F
    refine nl ?_
    refine then_n ?_
    refine ⟨H, ?_⟩
    refine fk (i := 30) (by kernel_rfl) rfl rfl rfl ?_
    refine cl ca29 (c_uint32 _ _ _ _ _ _ _ _ H.look (by omega) (by omega)) rfl ?_
    rintro _ w2 ⟨rfl, F⟩
    replace H := H.keep F; clear F
    refine nl ?_
    refine then_n ?_
    refine ⟨H, ?_⟩
    refine tkbu (out := ?o9) (i := 33) rfl (by kernel_rfl) rfl H ze76 bo76 ?f9 ?_
    case f9 =>
      refine FL.one (v := .int .i64 _) rfl pl76_0 rfl (by first | decide | simp) ?_
      refine FL.one (v := .bool _) rfl pl76_1 rfl (by first | decide | simp) ?_
      refine FL.one (v := .int .u8 _) rfl pl76_6 rfl (by first | decide | simp) ?_
      refine FL.one (v := .int .u8 _) rfl pl76_7 rfl (by first | decide | simp) ?_
      refine FL.one (v := .int .u8 _) rfl pl76_5 rfl (by first | decide | simp) ?_
      refine FL.one (v := .int .u8 _) rfl pl76_2 rfl (by first | decide | simp) ?_
      refine FL.one (v := .int .u8 _) rfl pl76_9 rfl (by first | decide | simp) ?_
      refine FL.one (v := .int .u8 _) rfl pl76_10 rfl (by first | decide | simp) ?_
      refine FL.one (v := .int .u8 _) rfl pl76_8 rfl (by first | decide | simp) ?_
      refine FL.one (v := .int .u32 _) rfl pl76_3 rfl (by first | decide | simp) ?_
      refine FL.one (v := .int .u32 _) rfl pl76_4 rfl (by first | decide | simp) ?_
      refine FL.one (v := .int .i64 _) rfl pl76_11 rfl (by first | decide | simp) ?_
      refine FL.one (v := .int .i64 _) rfl pl76_12 rfl (by first | decide | simp) ?_
      exact FL.nil
    refine fk (i := 34) (by kernel_rfl) rfl rfl rfl ?_
    refine bx (v := .agg _) H rfl rfl rfl ?_
    clear H; intro b1 w3 hb1 H _
    refine nl ?_
    refine then_n ?_
    refine ⟨H.drop, ?_⟩
    refine tk (i := 35) rfl (by kernel_rfl) rfl H.drop (fun w' H => r_asg (v := .pointer _) rfl) ?_
    refine tk (i := 36) rfl (by kernel_rfl) rfl H.drop (fun w' H => r_asg (v := .nilIface) rfl) ?_
    refine da (by kernel_rfl) ?_
    refine then_n ?_
    refine rt ?_
    refine fin_r ?_
    refine ⟨⟨_, rfl, H.ge, ?_⟩, H.fr⟩
    have e := H.get _ (.head _)
    rw [show decide (((cur.getD (o + (0 : Int).toNat * 1) 0).toNat : Int) = 128) = false from decide_eq_false (by omega)]
    exact e
  · refine sq ?_
    refine rg ?_
    refine eql rfl rfl rfl ?_
    refine asg (v := .bool _) rfl rfl ?_
    refine nl ?_
    refine then_n ?_
    first | refine cd rfl (fun hc3 => ?_) (fun hc3 => ?_) | refine cn rfl (fun hc3 => ?_) (fun hc3 => ?_)   -- test 3
    · refine rg ?_
      refine asg (v := .bool _) rfl rfl ?_
      refine nl ?_
      refine in_n ?_
      refine then_n ?_
      refine sq ?_
      refine dr (by kernel_rfl) ?_   -- region 10
      have H := H.drew
      refine holdH H [] ?_
      refine tk (i := 0) rfl (by kernel_rfl) rfl H (fun w' H => r_mv (v := .int .i64 _) rfl) ?_
      refine tk (i := 1) rfl (by kernel_rfl) rfl H (fun w' H => r_mv (v := .bool _) rfl) ?_
      refine tk (i := 2) rfl (by kernel_rfl) rfl H (fun w' H => r_mv (v := .slice _ _ _) rfl) ?_
      first | refine tk (i := 3) rfl (by kernel_rfl) rfl H (fun w' H => r_ia rfl rfl Tryd.underlying23 sz5_1 (by omega)) ?_ | refine tk (i := 3) rfl (by kernel_rfl) rfl H (fun w' H => r_iA rfl rfl Tryd.underlying23 sz5_1 (by omega)) ?_
      first | refine tk (i := 4) rfl (by kernel_rfl) rfl H (fun w' H => r_ldb H rfl sc5 (by omega)) ?_ | refine tk (i := 4) rfl (by kernel_rfl) rfl H (fun w' H => r_ld H rfl sc5 rfl) ?_ | refine tk (i := 4) rfl (by kernel_rfl) rfl H (fun w' H => r_lc rfl (by first | assumption | exact H.fr.cell (by assumption) (by simp)) sc5) ?_
      refine tk (i := 5) rfl (by kernel_rfl) rfl H (fun w' H => r_mv (v := .slice _ _ _) rfl) ?_
      first | refine tk (i := 6) rfl (by kernel_rfl) rfl H (fun w' H => r_ia rfl rfl Tryd.underlying23 sz5_1 (by omega)) ?_ | refine tk (i := 6) rfl (by kernel_rfl) rfl H (fun w' H => r_iA rfl rfl Tryd.underlying23 sz5_1 (by omega)) ?_
      first | refine tk (i := 7) rfl (by kernel_rfl) rfl H (fun w' H => r_ldb H rfl sc5 (by omega)) ?_ | refine tk (i := 7) rfl (by kernel_rfl) rfl H (fun w' H => r_ld H rfl sc5 rfl) ?_ | refine tk (i := 7) rfl (by kernel_rfl) rfl H (fun w' H => r_lc rfl (by first | assumption | exact H.fr.cell (by assumption) (by simp)) sc5) ?_
      refine tk (i := 8) rfl (by kernel_rfl) rfl H (fun w' H => r_mv (v := .slice _ _ _) rfl) ?_
      first | refine tk (i := 9) rfl (by kernel_rfl) rfl H (fun w' H => r_ia rfl rfl Tryd.underlying23 sz5_1 (by omega)) ?_ | refine tk (i := 9) rfl (by kernel_rfl) rfl H (fun w' H => r_iA rfl rfl Tryd.underlying23 sz5_1 (by omega)) ?_
      first | refine tk (i := 10) rfl (by kernel_rfl) rfl H (fun w' H => r_ldb H rfl sc5 (by omega)) ?_ | refine tk (i := 10) rfl (by kernel_rfl) rfl H (fun w' H => r_ld H rfl sc5 rfl) ?_ | refine tk (i := 10) rfl (by kernel_rfl) rfl H (fun w' H => r_lc rfl (by first | assumption | exact H.fr.cell (by assumption) (by simp)) sc5) ?_
      refine tk (i := 11) rfl (by kernel_rfl) rfl H (fun w' H => r_mv (v := .slice _ _ _) rfl) ?_
      first | refine tk (i := 12) rfl (by kernel_rfl) rfl H (fun w' H => r_ia rfl rfl Tryd.underlying23 sz5_1 (by omega)) ?_ | refine tk (i := 12) rfl (by kernel_rfl) rfl H (fun w' H => r_iA rfl rfl Tryd.underlying23 sz5_1 (by omega)) ?_
      first | refine tk (i := 13) rfl (by kernel_rfl) rfl H (fun w' H => r_ldb H rfl sc5 (by omega)) ?_ | refine tk (i := 13) rfl (by kernel_rfl) rfl H (fun w' H => r_ld H rfl sc5 rfl) ?_ | refine tk (i := 13) rfl (by kernel_rfl) rfl H (fun w' H => r_lc rfl (by first | assumption | exact H.fr.cell (by assumption) (by simp)) sc5) ?_
      refine tk (i := 14) rfl (by kernel_rfl) rfl H (fun w' H => r_mv (v := .slice _ _ _) rfl) ?_
      first | refine tk (i := 15) rfl (by kernel_rfl) rfl H (fun w' H => r_ia rfl rfl Tryd.underlying23 sz5_1 (by omega)) ?_ | refine tk (i := 15) rfl (by kernel_rfl) rfl H (fun w' H => r_iA rfl rfl Tryd.underlying23 sz5_1 (by omega)) ?_
      first | refine tk (i := 16) rfl (by kernel_rfl) rfl H (fun w' H => r_ldb H rfl sc5 (by omega)) ?_ | refine tk (i := 16) rfl (by kernel_rfl) rfl H (fun w' H => r_ld H rfl sc5 rfl) ?_ | refine tk (i := 16) rfl (by kernel_rfl) rfl H (fun w' H => r_lc rfl (by first | assumption | exact H.fr.cell (by assumption) (by simp)) sc5) ?_
      refine tk (i := 17) rfl (by kernel_rfl) rfl H (fun w' H => r_mv (v := .slice _ _ _) rfl) ?_
      first | refine tk (i := 18) rfl (by kernel_rfl) rfl H (fun w' H => r_ia rfl rfl Tryd.underlying23 sz5_1 (by omega)) ?_ | refine tk (i := 18) rfl (by kernel_rfl) rfl H (fun w' H => r_iA rfl rfl Tryd.underlying23 sz5_1 (by omega)) ?_
      first | refine tk (i := 19) rfl (by kernel_rfl) rfl H (fun w' H => r_ldb H rfl sc5 (by omega)) ?_ | refine tk (i := 19) rfl (by kernel_rfl) rfl H (fun w' H => r_ld H rfl sc5 rfl) ?_ | refine tk (i := 19) rfl (by kernel_rfl) rfl H (fun w' H => r_lc rfl (by first | assumption | exact H.fr.cell (by assumption) (by simp)) sc5) ?_
      refine tk (i := 20) rfl (by kernel_rfl) rfl H (fun w' H => r_mv (v := .slice _ _ _) rfl) ?_
      first | refine tk (i := 21) rfl (by kernel_rfl) rfl H (fun w' H => r_ia rfl rfl Tryd.underlying23 sz5_1 (by omega)) ?_ | refine tk (i := 21) rfl (by kernel_rfl) rfl H (fun w' H => r_iA rfl rfl Tryd.underlying23 sz5_1 (by omega)) ?_
      first | refine tk (i := 22) rfl (by kernel_rfl) rfl H (fun w' H => r_ldb H rfl sc5 (by omega)) ?_ | refine tk (i := 22) rfl (by kernel_rfl) rfl H (fun w' H => r_ld H rfl sc5 rfl) ?_ | refine tk (i := 22) rfl (by kernel_rfl) rfl H (fun w' H => r_lc rfl (by first | assumption | exact H.fr.cell (by assumption) (by simp)) sc5) ?_
      refine tk (i := 23) rfl (by kernel_rfl) rfl H (fun w' H => r_lw (ad := ⟨1, 0, none⟩) (vs := []) rfl ag105_0 rfl (by simp)) ?_
      refine tk (i := 24) rfl (by kernel_rfl) rfl H (fun w' H => r_mv (v := .slice _ _ _) rfl) ?_
      refine tk (i := 25) rfl (by kernel_rfl) rfl H (fun w' H => r_sllh rfl rfl rfl Tryd.underlying23 sz5_1 (by first | trivial | omega | (simp; omega))) ?_
      refine tk (i := 27) rfl (by kernel_rfl) rfl H (fun w' H => r_lw (ad := ⟨1, 0, none⟩) (vs := []) rfl ag105_0 rfl (by simp)) ?_
      refine tk (i := 28) rfl (by kernel_rfl) rfl H (fun w' H => r_mv (v := .slice _ _ _) rfl) ?_
      refine tk (i := 29) rfl (by kernel_rfl) rfl H (fun w' H => r_sllh rfl rfl rfl Tryd.underlying23 sz5_1 (by first | trivial | omega | (simp; omega))) ?_
      refine tk (i := 31) rfl (by kernel_rfl) rfl H (fun w' H => r_mv (v := .int .i64 _) rfl) ?_
      refine tk (i := 32) rfl (by kernel_rfl) rfl H (fun w' H => r_mv (v := .int .i64 _) rfl) ?_
      refine fk (i := 26) (by kernel_rfl) rfl rfl rfl ?_
      refine cl ca29 (c_uint32 _ _ _ _ _ _ _ _ H.look (by omega) (by omega)) rfl ?_
      rintro _ w4 ⟨rfl, F⟩
      replace H := H.keep F; clear F
      refine nl ?_
      refine then_n ?_
      refine ⟨H, ?_⟩
      refine fk (i := 30) (by kernel_rfl) rfl rfl rfl ?_
      refine cl ca29 (c_uint32 _ _ _ _ _ _ _ _ H.look (by omega) (by omega)) rfl ?_
      rintro _ w5 ⟨rfl, F⟩
      replace H := H.keep F; clear F
      refine nl ?_
      refine then_n ?_
      refine ⟨H, ?_⟩
      refine tkbu (out := ?o17) (i := 33) rfl (by kernel_rfl) rfl H ze76 bo76 ?f17 ?_
      case f17 =>
        refine FL.one (v := .int .i64 _) rfl pl76_0 rfl (by first | decide | simp) ?_
        refine FL.one (v := .bool _) rfl pl76_1 rfl (by first | decide | simp) ?_
        refine FL.one (v := .int .u8 _) rfl pl76_6 rfl (by first | decide | simp) ?_
        refine FL.one (v := .int .u8 _) rfl pl76_7 rfl (by first | decide | simp) ?_
        refine FL.one (v := .int .u8 _) rfl pl76_5 rfl (by first | decide | simp) ?_
        refine FL.one (v := .int .u8 _) rfl pl76_2 rfl (by first | decide | simp) ?_
        refine FL.one (v := .int .u8 _) rfl pl76_9 rfl (by first | decide | simp) ?_
        refine FL.one (v := .int .u8 _) rfl pl76_10 rfl (by first | decide | simp) ?_
        refine FL.one (v := .int .u8 _) rfl pl76_8 rfl (by first | decide | simp) ?_
        refine FL.one (v := .int .u32 _) rfl pl76_3 rfl (by first | decide | simp) ?_
        refine FL.one (v := .int .u32 _) rfl pl76_4 rfl (by first | decide | simp) ?_
        refine FL.one (v := .int .i64 _) rfl pl76_11 rfl (by first | decide | simp) ?_
        refine FL.one (v := .int .i64 _) rfl pl76_12 rfl (by first | decide | simp) ?_
        exact FL.nil
      refine fk (i := 34) (by kernel_rfl) rfl rfl rfl ?_
      refine bx (v := .agg _) H rfl rfl rfl ?_
      clear H; intro b2 w6 hb2 H _
      refine nl ?_
      refine then_n ?_
      refine ⟨H.drop, ?_⟩
      refine tk (i := 35) rfl (by kernel_rfl) rfl H.drop (fun w' H => r_asg (v := .pointer _) rfl) ?_
      refine tk (i := 36) rfl (by kernel_rfl) rfl H.drop (fun w' H => r_asg (v := .nilIface) rfl) ?_
      refine da (by kernel_rfl) ?_
      refine then_n ?_
      refine rt ?_
      refine fin_r ?_
      refine ⟨⟨_, rfl, H.ge, ?_⟩, H.fr⟩
      have e := H.get _ (.head _)
      rw [show decide (((cur.getD (o + (0 : Int).toNat * 1) 0).toNat : Int) = 128) = true from decide_eq_true (by omega)]
      exact e
    · omega -- END

end Go.Proofs.YtgmkjndmjnbahaaDoor.X
