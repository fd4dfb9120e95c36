/- Walks of functions, printed by a program of this claim. -/
import Derived.Test.YtdoiddkogigppaaA5
namespace Go.Proofs.Ytdoiddkogigppaa.X
set_option linter.unusedVariables false
set_option linter.unusedSimpArgs false
open Go Go.RowKit

namespace A6
theorem ag92_0 : aggB Try.prog 92 0 = true := by kernel_rfl
theorem bo75 : buildOK Try.prog 75 = true := by kernel_rfl
theorem ca37 : callable Try.prog 37 = true := by kernel_rfl
theorem pl75_0 : placeOf Try.prog 75 0 = some (0, 1) := by kernel_rfl
theorem pl75_1 : placeOf Try.prog 75 1 = some (1, 1) := by kernel_rfl
theorem pl75_10 : placeOf Try.prog 75 10 = some (10, 1) := by kernel_rfl
theorem pl75_11 : placeOf Try.prog 75 11 = some (11, 1) := by kernel_rfl
theorem pl75_12 : placeOf Try.prog 75 12 = some (12, 1) := by kernel_rfl
theorem pl75_2 : placeOf Try.prog 75 2 = some (2, 1) := by kernel_rfl
theorem pl75_3 : placeOf Try.prog 75 3 = some (3, 1) := by kernel_rfl
theorem pl75_4 : placeOf Try.prog 75 4 = some (4, 1) := by kernel_rfl
theorem pl75_5 : placeOf Try.prog 75 5 = some (5, 1) := by kernel_rfl
theorem pl75_6 : placeOf Try.prog 75 6 = some (6, 1) := by kernel_rfl
theorem pl75_7 : placeOf Try.prog 75 7 = some (7, 1) := by kernel_rfl
theorem pl75_8 : placeOf Try.prog 75 8 = some (8, 1) := by kernel_rfl
theorem pl75_9 : placeOf Try.prog 75 9 = some (9, 1) := by kernel_rfl
theorem sc5 : scalarB Try.prog 5 = true := by kernel_rfl
theorem sz5_1 : sizeB Try.prog 5 1 = true := by kernel_rfl
theorem ze75 : zeroL Try.prog 75 = some [.int .i64 0, .bool false, .int .u8 0, .int .u32 0, .int .u32 0, .int .u8 0, .int .u8 0, .int .u8 0, .int .u8 0, .int .u8 0, .int .u8 0, .int .i64 0, .int .i64 0, .string ⟨#[]⟩] := by kernel_rfl

end A6
open A6

set_option maxRecDepth 100000 in
theorem c_partFrom (w : World) (k : Int) (b o c : Nat) (T : TypeId) (fr : Nat × Nat) (cur : List UInt8) (hb : w.heap[b]? = some (.cells (Bs cur).toArray T fr)) (hc : 16 ≤ c) (ho : o + 16 ≤ cur.length) (h0 : ((cur.getD (o + (0 : Int).toNat * 1) 0).toNat : Int) = 0 ∨ ((cur.getD (o + (0 : Int).toNat * 1) 0).toNat : Int) = 128) : Calls Try.prog 32 #[.int .i64 k, .slice (some ⟨b, o, none⟩) 16 c, .int .i64 512, .int .i64 512] w (Ret fun v w' => (∃ p, v = .tuple #[.pointer (some ⟨p, 0, none⟩), .nilIface] ∧ w.heap.size ≤ p ∧ w'.heap[p]? = some (.cells ([.int .i64 k, .bool (decide (((cur.getD (o + (0 : Int).toNat * 1) 0).toNat : Int) = 128)), .int .u8 ((cur.getD (o + (4 : Int).toNat * 1) 0).toNat : Int), .int .u32 (leV ((cur.drop (o + (8 : Int).toNat * 1)).take 4)), .int .u32 (leV ((cur.drop (o + (12 : Int).toNat * 1)).take 4)), .int .u8 ((cur.getD (o + (3 : Int).toNat * 1) 0).toNat : Int), .int .u8 ((cur.getD (o + (1 : Int).toNat * 1) 0).toNat : Int), .int .u8 ((cur.getD (o + (2 : Int).toNat * 1) 0).toNat : Int), .int .u8 ((cur.getD (o + (7 : Int).toNat * 1) 0).toNat : Int), .int .u8 ((cur.getD (o + (5 : Int).toNat * 1) 0).toNat : Int), .int .u8 ((cur.getD (o + (6 : Int).toNat * 1) 0).toNat : Int), .int .i64 512, .int .i64 512, .string (str [])]).toArray 75 (0, 0))) ∧ Fr [] w w') := by
  refine enter (fun ρ => .tuple #[ρ 8, ρ 9]) Try.func32 rfl rfl rfl (res2 rfl) ?_
  have H := SH.ro1 hb
  refine sq ?_
  refine rg ?_
  refine asg (v := .pointer _) rfl rfl ?_
  refine asg (v := .nilIface) rfl rfl ?_
  refine nl ?_
  refine then_n ?_
  refine sq ?_
  refine sq ?_
  refine rg ?_
  refine mv (v := .slice _ _ _) rfl rfl ?_
  refine lnS rfl Try.underlying30 rfl ?_
  refine neq rfl rfl rfl ?_
  refine nl ?_
  refine then_n ?_
  first | refine cF rfl (by omega) ?_ | refine cbF rfl (by omega) ?_   -- test 1
  refine sk ?_
  refine then_n ?_
  refine sq ?_
  refine rg ?_
  refine asg (v := .bool _) rfl rfl ?_
  refine nl ?_
  refine then_n ?_
  refine sq ?_
  refine sq ?_
  refine rg ?_
  refine mv (v := .slice _ _ _) rfl rfl ?_
  first | refine ia rfl rfl Try.underlying30 sz5_1 (by omega) rfl ?_ | refine iA rfl rfl Try.underlying30 sz5_1 (by omega) rfl ?_
  first | (refine ldb H rfl sc5 (by omega) rfl ?_; intro hu1) | refine ld H rfl sc5 rfl rfl ?_ | refine lc rfl (by assumption) sc5 rfl ?_
  refine nl ?_
  refine then_n ?_
  refine bk ?_
  refine sq ?_
  refine rg ?_
  refine eql rfl rfl rfl ?_
  refine asg (v := .bool _) rfl rfl ?_
  refine nl ?_
  refine then_n ?_
  first | refine cd rfl (fun hc2 => ?_) (fun hc2 => ?_) | refine cn rfl (fun hc2 => ?_) (fun hc2 => ?_)   -- test 2
  · refine rg ?_
    refine asg (v := .bool _) rfl rfl ?_
    refine nl ?_
    refine in_n ?_
    refine then_n ?_
    refine sq ?_
    refine dr (by kernel_rfl) ?_   -- region 10
    have H := H.drew
    refine holdH H [] ?_
    refine tk (i := 0) rfl (by kernel_rfl) rfl H (fun w' H => r_mv (v := .int .i64 _) rfl) ?_
    refine tk (i := 1) rfl (by kernel_rfl) rfl H (fun w' H => r_mv (v := .bool _) rfl) ?_
    refine tk (i := 2) rfl (by kernel_rfl) rfl H (fun w' H => r_mv (v := .slice _ _ _) rfl) ?_
    first | refine tk (i := 3) rfl (by kernel_rfl) rfl H (fun w' H => r_ia rfl rfl Try.underlying30 sz5_1 (by omega)) ?_ | refine tk (i := 3) rfl (by kernel_rfl) rfl H (fun w' H => r_iA rfl rfl Try.underlying30 sz5_1 (by omega)) ?_
    first | refine tk (i := 4) rfl (by kernel_rfl) rfl H (fun w' H => r_ldb H rfl sc5 (by omega)) ?_ | refine tk (i := 4) rfl (by kernel_rfl) rfl H (fun w' H => r_ld H rfl sc5 rfl) ?_ | refine tk (i := 4) rfl (by kernel_rfl) rfl H (fun w' H => r_lc rfl (by assumption) sc5) ?_
    refine tk (i := 5) rfl (by kernel_rfl) rfl H (fun w' H => r_mv (v := .slice _ _ _) rfl) ?_
    first | refine tk (i := 6) rfl (by kernel_rfl) rfl H (fun w' H => r_ia rfl rfl Try.underlying30 sz5_1 (by omega)) ?_ | refine tk (i := 6) rfl (by kernel_rfl) rfl H (fun w' H => r_iA rfl rfl Try.underlying30 sz5_1 (by omega)) ?_
    first | refine tk (i := 7) rfl (by kernel_rfl) rfl H (fun w' H => r_ldb H rfl sc5 (by omega)) ?_ | refine tk (i := 7) rfl (by kernel_rfl) rfl H (fun w' H => r_ld H rfl sc5 rfl) ?_ | refine tk (i := 7) rfl (by kernel_rfl) rfl H (fun w' H => r_lc rfl (by assumption) sc5) ?_
    refine tk (i := 8) rfl (by kernel_rfl) rfl H (fun w' H => r_mv (v := .slice _ _ _) rfl) ?_
    first | refine tk (i := 9) rfl (by kernel_rfl) rfl H (fun w' H => r_ia rfl rfl Try.underlying30 sz5_1 (by omega)) ?_ | refine tk (i := 9) rfl (by kernel_rfl) rfl H (fun w' H => r_iA rfl rfl Try.underlying30 sz5_1 (by omega)) ?_
    first | refine tk (i := 10) rfl (by kernel_rfl) rfl H (fun w' H => r_ldb H rfl sc5 (by omega)) ?_ | refine tk (i := 10) rfl (by kernel_rfl) rfl H (fun w' H => r_ld H rfl sc5 rfl) ?_ | refine tk (i := 10) rfl (by kernel_rfl) rfl H (fun w' H => r_lc rfl (by assumption) sc5) ?_
    refine tk (i := 11) rfl (by kernel_rfl) rfl H (fun w' H => r_mv (v := .slice _ _ _) rfl) ?_
    first | refine tk (i := 12) rfl (by kernel_rfl) rfl H (fun w' H => r_ia rfl rfl Try.underlying30 sz5_1 (by omega)) ?_ | refine tk (i := 12) rfl (by kernel_rfl) rfl H (fun w' H => r_iA rfl rfl Try.underlying30 sz5_1 (by omega)) ?_
    first | refine tk (i := 13) rfl (by kernel_rfl) rfl H (fun w' H => r_ldb H rfl sc5 (by omega)) ?_ | refine tk (i := 13) rfl (by kernel_rfl) rfl H (fun w' H => r_ld H rfl sc5 rfl) ?_ | refine tk (i := 13) rfl (by kernel_rfl) rfl H (fun w' H => r_lc rfl (by assumption) sc5) ?_
    refine tk (i := 14) rfl (by kernel_rfl) rfl H (fun w' H => r_mv (v := .slice _ _ _) rfl) ?_
    first | refine tk (i := 15) rfl (by kernel_rfl) rfl H (fun w' H => r_ia rfl rfl Try.underlying30 sz5_1 (by omega)) ?_ | refine tk (i := 15) rfl (by kernel_rfl) rfl H (fun w' H => r_iA rfl rfl Try.underlying30 sz5_1 (by omega)) ?_
    first | refine tk (i := 16) rfl (by kernel_rfl) rfl H (fun w' H => r_ldb H rfl sc5 (by omega)) ?_ | refine tk (i := 16) rfl (by kernel_rfl) rfl H (fun w' H => r_ld H rfl sc5 rfl) ?_ | refine tk (i := 16) rfl (by kernel_rfl) rfl H (fun w' H => r_lc rfl (by assumption) sc5) ?_
    refine tk (i := 17) rfl (by kernel_rfl) rfl H (fun w' H => r_mv (v := .slice _ _ _) rfl) ?_
    first | refine tk (i := 18) rfl (by kernel_rfl) rfl H (fun w' H => r_ia rfl rfl Try.underlying30 sz5_1 (by omega)) ?_ | refine tk (i := 18) rfl (by kernel_rfl) rfl H (fun w' H => r_iA rfl rfl Try.underlying30 sz5_1 (by omega)) ?_
    first | refine tk (i := 19) rfl (by kernel_rfl) rfl H (fun w' H => r_ldb H rfl sc5 (by omega)) ?_ | refine tk (i := 19) rfl (by kernel_rfl) rfl H (fun w' H => r_ld H rfl sc5 rfl) ?_ | refine tk (i := 19) rfl (by kernel_rfl) rfl H (fun w' H => r_lc rfl (by assumption) sc5) ?_
    refine tk (i := 20) rfl (by kernel_rfl) rfl H (fun w' H => r_mv (v := .slice _ _ _) rfl) ?_
    first | refine tk (i := 21) rfl (by kernel_rfl) rfl H (fun w' H => r_ia rfl rfl Try.underlying30 sz5_1 (by omega)) ?_ | refine tk (i := 21) rfl (by kernel_rfl) rfl H (fun w' H => r_iA rfl rfl Try.underlying30 sz5_1 (by omega)) ?_
    first | refine tk (i := 22) rfl (by kernel_rfl) rfl H (fun w' H => r_ldb H rfl sc5 (by omega)) ?_ | refine tk (i := 22) rfl (by kernel_rfl) rfl H (fun w' H => r_ld H rfl sc5 rfl) ?_ | refine tk (i := 22) rfl (by kernel_rfl) rfl H (fun w' H => r_lc rfl (by assumption) sc5) ?_
    refine tk (i := 23) rfl (by kernel_rfl) rfl H (fun w' H => r_lw (ad := ⟨0, 0, none⟩) (vs := []) rfl ag92_0 rfl (by simp)) ?_
    refine tk (i := 24) rfl (by kernel_rfl) rfl H (fun w' H => r_mv (v := .slice _ _ _) rfl) ?_
    refine tk (i := 25) rfl (by kernel_rfl) rfl H (fun w' H => r_sllh rfl rfl rfl Try.underlying30 sz5_1 (by first | trivial | omega | (simp; omega))) ?_
    refine tk (i := 27) rfl (by kernel_rfl) rfl H (fun w' H => r_lw (ad := ⟨0, 0, none⟩) (vs := []) rfl ag92_0 rfl (by simp)) ?_
    refine tk (i := 28) rfl (by kernel_rfl) rfl H (fun w' H => r_mv (v := .slice _ _ _) rfl) ?_
    refine tk (i := 29) rfl (by kernel_rfl) rfl H (fun w' H => r_sllh rfl rfl rfl Try.underlying30 sz5_1 (by first | trivial | omega | (simp; omega))) ?_
    refine tk (i := 31) rfl (by kernel_rfl) rfl H (fun w' H => r_mv (v := .int .i64 _) rfl) ?_
    refine tk (i := 32) rfl (by kernel_rfl) rfl H (fun w' H => r_mv (v := .int .i64 _) rfl) ?_
    refine fk (i := 26) (by kernel_rfl) rfl rfl rfl ?_
    refine cl ca37 (c_uint32 _ _ _ _ _ _ _ _ H.look (by omega) (by omega)) rfl ?_
    rintro _ w1 ⟨rfl, F⟩
    replace H := H.keep F; clear F
    refine nl ?_
    refine then_n ?_
    refine ⟨H, ?_⟩
    refine fk (i := 30) (by kernel_rfl) rfl rfl rfl ?_
    refine cl ca37 (c_uint32 _ _ _ _ _ _ _ _ H.look (by omega) (by omega)) rfl ?_
    rintro _ w2 ⟨rfl, F⟩
    replace H := H.keep F; clear F
    refine nl ?_
    refine then_n ?_
    refine ⟨H, ?_⟩
    refine tkbu (out := ?o9) (i := 33) rfl (by kernel_rfl) rfl H ze75 bo75 ?f9 ?_
    case f9 =>
      refine FL.one (v := .int .i64 _) rfl pl75_0 rfl (by first | decide | simp) ?_
      refine FL.one (v := .bool _) rfl pl75_1 rfl (by first | decide | simp) ?_
      refine FL.one (v := .int .u8 _) rfl pl75_6 rfl (by first | decide | simp) ?_
      refine FL.one (v := .int .u8 _) rfl pl75_7 rfl (by first | decide | simp) ?_
      refine FL.one (v := .int .u8 _) rfl pl75_5 rfl (by first | decide | simp) ?_
      refine FL.one (v := .int .u8 _) rfl pl75_2 rfl (by first | decide | simp) ?_
      refine FL.one (v := .int .u8 _) rfl pl75_9 rfl (by first | decide | simp) ?_
      refine FL.one (v := .int .u8 _) rfl pl75_10 rfl (by first | decide | simp) ?_
      refine FL.one (v := .int .u8 _) rfl pl75_8 rfl (by first | decide | simp) ?_
      refine FL.one (v := .int .u32 _) rfl pl75_3 rfl (by first | decide | simp) ?_
      refine FL.one (v := .int .u32 _) rfl pl75_4 rfl (by first | decide | simp) ?_
      refine FL.one (v := .int .i64 _) rfl pl75_11 rfl (by first | decide | simp) ?_
      refine FL.one (v := .int .i64 _) rfl pl75_12 rfl (by first | decide | simp) ?_
      exact FL.nil
    refine fk (i := 34) (by kernel_rfl) rfl rfl rfl ?_
    refine bx (v := .agg _) H rfl rfl rfl ?_
    clear H; intro b1 w3 hb1 H _
    refine nl ?_
    refine then_n ?_
    refine ⟨H.drop, ?_⟩
    refine tk (i := 35) rfl (by kernel_rfl) rfl H.drop (fun w' H => r_asg (v := .pointer _) rfl) ?_
    refine tk (i := 36) rfl (by kernel_rfl) rfl H.drop (fun w' H => r_asg (v := .nilIface) rfl) ?_
    refine da (by kernel_rfl) ?_
    refine then_n ?_
    refine rt ?_
    refine fin_r ?_
    refine ⟨⟨_, rfl, H.ge, ?_⟩, H.fr⟩
    have e := H.get _ (.head _)
    rw [show decide (((cur.getD (o + (0 : Int).toNat * 1) 0).toNat : Int) = 128) = false from decide_eq_false (by omega)]
    exact e
  · refine sq ?_
    refine rg ?_
    refine eql rfl rfl rfl ?_
    refine asg (v := .bool _) rfl rfl ?_
    refine nl ?_
    refine then_n ?_
    first | refine cd rfl (fun hc3 => ?_) (fun hc3 => ?_) | refine cn rfl (fun hc3 => ?_) (fun hc3 => ?_)   -- test 3
    · refine rg ?_
      refine asg (v := .bool _) rfl rfl ?_
      refine nl ?_
      refine in_n ?_
      refine then_n ?_
      refine sq ?_
      refine dr (by kernel_rfl) ?_   -- region 10
      have H := H.drew
      refine holdH H [] ?_
      refine tk (i := 0) rfl (by kernel_rfl) rfl H (fun w' H => r_mv (v := .int .i64 _) rfl) ?_
      refine tk (i := 1) rfl (by kernel_rfl) rfl H (fun w' H => r_mv (v := .bool _) rfl) ?_
      refine tk (i := 2) rfl (by kernel_rfl) rfl H (fun w' H => r_mv (v := .slice _ _ _) rfl) ?_
      first | refine tk (i := 3) rfl (by kernel_rfl) rfl H (fun w' H => r_ia rfl rfl Try.underlying30 sz5_1 (by omega)) ?_ | refine tk (i := 3) rfl (by kernel_rfl) rfl H (fun w' H => r_iA rfl rfl Try.underlying30 sz5_1 (by omega)) ?_
      first | refine tk (i := 4) rfl (by kernel_rfl) rfl H (fun w' H => r_ldb H rfl sc5 (by omega)) ?_ | refine tk (i := 4) rfl (by kernel_rfl) rfl H (fun w' H => r_ld H rfl sc5 rfl) ?_ | refine tk (i := 4) rfl (by kernel_rfl) rfl H (fun w' H => r_lc rfl (by assumption) sc5) ?_
      refine tk (i := 5) rfl (by kernel_rfl) rfl H (fun w' H => r_mv (v := .slice _ _ _) rfl) ?_
      first | refine tk (i := 6) rfl (by kernel_rfl) rfl H (fun w' H => r_ia rfl rfl Try.underlying30 sz5_1 (by omega)) ?_ | refine tk (i := 6) rfl (by kernel_rfl) rfl H (fun w' H => r_iA rfl rfl Try.underlying30 sz5_1 (by omega)) ?_
      first | refine tk (i := 7) rfl (by kernel_rfl) rfl H (fun w' H => r_ldb H rfl sc5 (by omega)) ?_ | refine tk (i := 7) rfl (by kernel_rfl) rfl H (fun w' H => r_ld H rfl sc5 rfl) ?_ | refine tk (i := 7) rfl (by kernel_rfl) rfl H (fun w' H => r_lc rfl (by assumption) sc5) ?_
      refine tk (i := 8) rfl (by kernel_rfl) rfl H (fun w' H => r_mv (v := .slice _ _ _) rfl) ?_
      first | refine tk (i := 9) rfl (by kernel_rfl) rfl H (fun w' H => r_ia rfl rfl Try.underlying30 sz5_1 (by omega)) ?_ | refine tk (i := 9) rfl (by kernel_rfl) rfl H (fun w' H => r_iA rfl rfl Try.underlying30 sz5_1 (by omega)) ?_
      first | refine tk (i := 10) rfl (by kernel_rfl) rfl H (fun w' H => r_ldb H rfl sc5 (by omega)) ?_ | refine tk (i := 10) rfl (by kernel_rfl) rfl H (fun w' H => r_ld H rfl sc5 rfl) ?_ | refine tk (i := 10) rfl (by kernel_rfl) rfl H (fun w' H => r_lc rfl (by assumption) sc5) ?_
      refine tk (i := 11) rfl (by kernel_rfl) rfl H (fun w' H => r_mv (v := .slice _ _ _) rfl) ?_
      first | refine tk (i := 12) rfl (by kernel_rfl) rfl H (fun w' H => r_ia rfl rfl Try.underlying30 sz5_1 (by omega)) ?_ | refine tk (i := 12) rfl (by kernel_rfl) rfl H (fun w' H => r_iA rfl rfl Try.underlying30 sz5_1 (by omega)) ?_
      first | refine tk (i := 13) rfl (by kernel_rfl) rfl H (fun w' H => r_ldb H rfl sc5 (by omega)) ?_ | refine tk (i := 13) rfl (by kernel_rfl) rfl H (fun w' H => r_ld H rfl sc5 rfl) ?_ | refine tk (i := 13) rfl (by kernel_rfl) rfl H (fun w' H => r_lc rfl (by assumption) sc5) ?_
      refine tk (i := 14) rfl (by kernel_rfl) rfl H (fun w' H => r_mv (v := .slice _ _ _) rfl) ?_
      first | refine tk (i := 15) rfl (by kernel_rfl) rfl H (fun w' H => r_ia rfl rfl Try.underlying30 sz5_1 (by omega)) ?_ | refine tk (i := 15) rfl (by kernel_rfl) rfl H (fun w' H => r_iA rfl rfl Try.underlying30 sz5_1 (by omega)) ?_
      first | refine tk (i := 16) rfl (by kernel_rfl) rfl H (fun w' H => r_ldb H rfl sc5 (by omega)) ?_ | refine tk (i := 16) rfl (by kernel_rfl) rfl H (fun w' H => r_ld H rfl sc5 rfl) ?_ | refine tk (i := 16) rfl (by kernel_rfl) rfl H (fun w' H => r_lc rfl (by assumption) sc5) ?_
      refine tk (i := 17) rfl (by kernel_rfl) rfl H (fun w' H => r_mv (v := .slice _ _ _) rfl) ?_
      first | refine tk (i := 18) rfl (by kernel_rfl) rfl H (fun w' H => r_ia rfl rfl Try.underlying30 sz5_1 (by omega)) ?_ | refine tk (i := 18) rfl (by kernel_rfl) rfl H (fun w' H => r_iA rfl rfl Try.underlying30 sz5_1 (by omega)) ?_
      first | refine tk (i := 19) rfl (by kernel_rfl) rfl H (fun w' H => r_ldb H rfl sc5 (by omega)) ?_ | refine tk (i := 19) rfl (by kernel_rfl) rfl H (fun w' H => r_ld H rfl sc5 rfl) ?_ | refine tk (i := 19) rfl (by kernel_rfl) rfl H (fun w' H => r_lc rfl (by assumption) sc5) ?_
      refine tk (i := 20) rfl (by kernel_rfl) rfl H (fun w' H => r_mv (v := .slice _ _ _) rfl) ?_
      first | refine tk (i := 21) rfl (by kernel_rfl) rfl H (fun w' H => r_ia rfl rfl Try.underlying30 sz5_1 (by omega)) ?_ | refine tk (i := 21) rfl (by kernel_rfl) rfl H (fun w' H => r_iA rfl rfl Try.underlying30 sz5_1 (by omega)) ?_
      first | refine tk (i := 22) rfl (by kernel_rfl) rfl H (fun w' H => r_ldb H rfl sc5 (by omega)) ?_ | refine tk (i := 22) rfl (by kernel_rfl) rfl H (fun w' H => r_ld H rfl sc5 rfl) ?_ | refine tk (i := 22) rfl (by kernel_rfl) rfl H (fun w' H => r_lc rfl (by assumption) sc5) ?_
      refine tk (i := 23) rfl (by kernel_rfl) rfl H (fun w' H => r_lw (ad := ⟨0, 0, none⟩) (vs := []) rfl ag92_0 rfl (by simp)) ?_
      refine tk (i := 24) rfl (by kernel_rfl) rfl H (fun w' H => r_mv (v := .slice _ _ _) rfl) ?_
      refine tk (i := 25) rfl (by kernel_rfl) rfl H (fun w' H => r_sllh rfl rfl rfl Try.underlying30 sz5_1 (by first | trivial | omega | (simp; omega))) ?_
      refine tk (i := 27) rfl (by kernel_rfl) rfl H (fun w' H => r_lw (ad := ⟨0, 0, none⟩) (vs := []) rfl ag92_0 rfl (by simp)) ?_
      refine tk (i := 28) rfl (by kernel_rfl) rfl H (fun w' H => r_mv (v := .slice _ _ _) rfl) ?_
      refine tk (i := 29) rfl (by kernel_rfl) rfl H (fun w' H => r_sllh rfl rfl rfl Try.underlying30 sz5_1 (by first | trivial | omega | (simp; omega))) ?_
      refine tk (i := 31) rfl (by kernel_rfl) rfl H (fun w' H => r_mv (v := .int .i64 _) rfl) ?_
      refine tk (i := 32) rfl (by kernel_rfl) rfl H (fun w' H => r_mv (v := .int .i64 _) rfl) ?_
      refine fk (i := 26) (by kernel_rfl) rfl rfl rfl ?_
      refine cl ca37 (c_uint32 _ _ _ _ _ _ _ _ H.look (by omega) (by omega)) rfl ?_
      rintro _ w4 ⟨rfl, F⟩
      replace H := H.keep F; clear F
      refine nl ?_
      refine then_n ?_
      refine ⟨H, ?_⟩
      refine fk (i := 30) (by kernel_rfl) rfl rfl rfl ?_
      refine cl ca37 (c_uint32 _ _ _ _ _ _ _ _ H.look (by omega) (by omega)) rfl ?_
      rintro _ w5 ⟨rfl, F⟩
      replace H := H.keep F; clear F
      refine nl ?_
      refine then_n ?_
      refine ⟨H, ?_⟩
      refine tkbu (out := ?o17) (i := 33) rfl (by kernel_rfl) rfl H ze75 bo75 ?f17 ?_
      case f17 =>
        refine FL.one (v := .int .i64 _) rfl pl75_0 rfl (by first | decide | simp) ?_
        refine FL.one (v := .bool _) rfl pl75_1 rfl (by first | decide | simp) ?_
        refine FL.one (v := .int .u8 _) rfl pl75_6 rfl (by first | decide | simp) ?_
        refine FL.one (v := .int .u8 _) rfl pl75_7 rfl (by first | decide | simp) ?_
        refine FL.one (v := .int .u8 _) rfl pl75_5 rfl (by first | decide | simp) ?_
        refine FL.one (v := .int .u8 _) rfl pl75_2 rfl (by first | decide | simp) ?_
        refine FL.one (v := .int .u8 _) rfl pl75_9 rfl (by first | decide | simp) ?_
        refine FL.one (v := .int .u8 _) rfl pl75_10 rfl (by first | decide | simp) ?_
        refine FL.one (v := .int .u8 _) rfl pl75_8 rfl (by first | decide | simp) ?_
        refine FL.one (v := .int .u32 _) rfl pl75_3 rfl (by first | decide | simp) ?_
        refine FL.one (v := .int .u32 _) rfl pl75_4 rfl (by first | decide | simp) ?_
        refine FL.one (v := .int .i64 _) rfl pl75_11 rfl (by first | decide | simp) ?_
        refine FL.one (v := .int .i64 _) rfl pl75_12 rfl (by first | decide | simp) ?_
        exact FL.nil
      refine fk (i := 34) (by kernel_rfl) rfl rfl rfl ?_
      refine bx (v := .agg _) H rfl rfl rfl ?_
      clear H; intro b2 w6 hb2 H _
      refine nl ?_
      refine then_n ?_
      refine ⟨H.drop, ?_⟩
      refine tk (i := 35) rfl (by kernel_rfl) rfl H.drop (fun w' H => r_asg (v := .pointer _) rfl) ?_
      refine tk (i := 36) rfl (by kernel_rfl) rfl H.drop (fun w' H => r_asg (v := .nilIface) rfl) ?_
      refine da (by kernel_rfl) ?_
      refine then_n ?_
      refine rt ?_
      refine fin_r ?_
      refine ⟨⟨_, rfl, H.ge, ?_⟩, H.fr⟩
      have e := H.get _ (.head _)
      rw [show decide (((cur.getD (o + (0 : Int).toNat * 1) 0).toNat : Int) = 128) = true from decide_eq_true (by omega)]
      exact e
    · omega -- END

end Go.Proofs.Ytdoiddkogigppaa.X
