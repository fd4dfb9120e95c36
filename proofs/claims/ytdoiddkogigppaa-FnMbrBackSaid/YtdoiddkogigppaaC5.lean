/- Walks of functions, printed by a program of this claim. -/
import Derived.Test.YtdoiddkogigppaaC4
namespace Go.Proofs.Ytdoiddkogigppaa.X
set_option linter.unusedVariables false
set_option linter.unusedSimpArgs false
open Go Go.RowKit

namespace C5
theorem ag26_11 : aggB Try.prog 26 11 = true := by kernel_rfl
theorem ag27_44 : aggB Try.prog 27 44 = true := by kernel_rfl
theorem bo24 : buildOK Try.prog 24 = true := by kernel_rfl
theorem bo26 : buildOK Try.prog 26 = true := by kernel_rfl
theorem ca22 : callable Try.prog 22 = true := by kernel_rfl
theorem pl24_0 : placeOf Try.prog 24 0 = some (0, 1) := by kernel_rfl
theorem pl24_1 : placeOf Try.prog 24 1 = some (1, 1) := by kernel_rfl
theorem pl24_2 : placeOf Try.prog 24 2 = some (2, 1) := by kernel_rfl
theorem pl24_3 : placeOf Try.prog 24 3 = some (3, 1) := by kernel_rfl
theorem pl24_4 : placeOf Try.prog 24 4 = some (4, 1) := by kernel_rfl
theorem pl24_5 : placeOf Try.prog 24 5 = some (5, 1) := by kernel_rfl
theorem pl26_0 : placeOf Try.prog 26 0 = some (0, 1) := by kernel_rfl
theorem pl26_1 : placeOf Try.prog 26 1 = some (1, 1) := by kernel_rfl
theorem pl26_2 : placeOf Try.prog 26 2 = some (2, 1) := by kernel_rfl
theorem pl26_3 : placeOf Try.prog 26 3 = some (3, 1) := by kernel_rfl
theorem pl26_4 : placeOf Try.prog 26 4 = some (4, 1) := by kernel_rfl
theorem pl26_5 : placeOf Try.prog 26 5 = some (5, 6) := by kernel_rfl
theorem sc5 : scalarB Try.prog 5 = true := by kernel_rfl
theorem sz26_11 : sizeB Try.prog 26 11 = true := by kernel_rfl
theorem sz5_1 : sizeB Try.prog 5 1 = true := by kernel_rfl
theorem ze24 : zeroL Try.prog 24 = some [.int .u8 0, .int .u8 0, .int .u8 0, .int .u8 0, .int .u8 0, .int .u8 0] := by kernel_rfl
theorem ze26 : zeroL Try.prog 26 = some [.int .i64 0, .bool false, .int .u8 0, .int .u32 0, .int .u32 0, .int .u8 0, .int .u8 0, .int .u8 0, .int .u8 0, .int .u8 0, .int .u8 0] := by kernel_rfl
theorem ze27 : zeroL Try.prog 27 = some [.int .i64 0, .bool false, .int .u8 0, .int .u32 0, .int .u32 0, .int .u8 0, .int .u8 0, .int .u8 0, .int .u8 0, .int .u8 0, .int .u8 0, .int .i64 0, .bool false, .int .u8 0, .int .u32 0, .int .u32 0, .int .u8 0, .int .u8 0, .int .u8 0, .int .u8 0, .int .u8 0, .int .u8 0, .int .i64 0, .bool false, .int .u8 0, .int .u32 0, .int .u32 0, .int .u8 0, .int .u8 0, .int .u8 0, .int .u8 0, .int .u8 0, .int .u8 0, .int .i64 0, .bool false, .int .u8 0, .int .u32 0, .int .u32 0, .int .u8 0, .int .u8 0, .int .u8 0, .int .u8 0, .int .u8 0, .int .u8 0] := by kernel_rfl

end C5
open C5

set_option maxRecDepth 100000 in
theorem c_mbrDecode (w : World) (b n c : Nat) (T : TypeId) (fr : Nat × Nat) (ds : List UInt8) (hb : w.heap[b]? = some (.cells (Bs ds).toArray T fr)) (hn : 512 ≤ n ∧ n ≤ ds.length ∧ n ≤ c ∧ n ≤ 1000000000) (hs : sigB ds = true) (hf : flagsB ds) : Calls Try.prog 13 #[.slice (some ⟨b, 0, none⟩) n c] w (Ret fun v w' => v = .tuple #[.agg ((mpsOf ds).flatMap MP.cells).toArray, .bool true] ∧ Fr [] w w') := by
  refine enterR [.cell 2 27, .tmp 3] Try.func13 rfl rfl rfl rfl ?_
  have H := SH.ro1 hb
  have hsa := sig_at (ds := ds) (by omega)
  rw [hs] at hsa
  obtain ⟨hs1, hs2⟩ := of_decide_eq_true hsa.symm
  refine sq ?_
  refine rg ?_
  refine al H ze27 rfl ?_
  clear H; intro b1 w1 hb1 H _
  refine asg (v := .bool _) rfl rfl ?_
  refine nl ?_
  refine then_n ?_
  refine sq ?_
  refine rg ?_
  refine al H ze27 rfl ?_
  clear H; intro b2 w2 hb2 H _
  refine nl ?_
  refine then_n ?_
  refine sq ?_
  refine sq ?_
  refine rg ?_
  refine mv (v := .slice _ _ _) rfl rfl ?_
  refine lnS rfl Try.underlying30 rfl ?_
  refine lss rfl rfl rfl ?_
  refine mv (v := .bool _) rfl rfl ?_
  first | refine spL (t := 10) (b := false) rfl ?_ | refine spF (t := 10) rfl (by omega) ?_   -- guard 1
  refine gy rfl ?_
  refine mv (v := .slice _ _ _) rfl rfl ?_
  refine gy rfl ?_
  first | refine ia rfl rfl Try.underlying30 sz5_1 (by omega) rfl ?_ | refine iA rfl rfl Try.underlying30 sz5_1 (by omega) rfl ?_
  refine gy rfl ?_
  first | (refine ldb H rfl sc5 (by omega) rfl ?_; intro hu1) | refine ld H rfl sc5 rfl rfl ?_ | refine lc rfl (by assumption) sc5 rfl ?_
  refine gy rfl ?_
  refine neq rfl rfl rfl ?_
  refine pkF (v := .bool _) rfl rfl rfl ?_
  refine mv (v := .bool _) rfl rfl ?_
  first | refine spL (t := 16) (b := false) rfl ?_ | refine spF (t := 16) rfl (fun h => h hs1) ?_   -- guard 2
  refine gy rfl ?_
  refine mv (v := .slice _ _ _) rfl rfl ?_
  refine gy rfl ?_
  first | refine ia rfl rfl Try.underlying30 sz5_1 (by omega) rfl ?_ | refine iA rfl rfl Try.underlying30 sz5_1 (by omega) rfl ?_
  refine gy rfl ?_
  first | (refine ldb H rfl sc5 (by omega) rfl ?_; intro hu2) | refine ld H rfl sc5 rfl rfl ?_ | refine lc rfl (by assumption) sc5 rfl ?_
  refine gy rfl ?_
  refine neq rfl rfl rfl ?_
  refine pkF (v := .bool _) rfl rfl rfl ?_
  refine nl ?_
  refine then_n ?_
  first | refine cF rfl (fun h => h hs2) ?_ | refine cbF rfl (fun h => h hs2) ?_   -- test 1
  refine sk ?_
  refine then_n ?_
  refine sq ?_
  refine sq ?_
  refine rg ?_
  refine mv (v := .int .i64 _) rfl rfl ?_
  refine nl ?_
  refine then_n ?_
  refine bk ?_
  refine lpM (α := Nat) [3, 5, 6, 23, 24, 25, 26, 27, 28, 29, 30, 31, 32, 33, 34, 35, 36, 37, 38, 39, 40, 41, 42, 43, 44, 45, 46, 47, 48, 49, 50, 51, 52, 53, 54, 55, 56, 57, 58, 59, 60, 61, 62, 63, 64, 65, 66, 67, 68, 69, 70, 71, 72, 73, 74, 75, 76, 77, 78, 79, 80, 81, 82, 83, 84] (fun i => [(23, .int .i64 (i : Int))]) (fun i w' => i ≤ 4 ∧ SH w [] w' [⟨b2, .cells ((arr4 (mpsOf ds) i).flatMap MP.cells).toArray 27 (0, 0), true⟩, ⟨b1, .cells ((List.replicate 4 MP.zero).flatMap MP.cells).toArray 27 (0, 0), true⟩, ⟨b, .cells (Bs ds).toArray T fr, false⟩]) (fun i => 4 - i) 0 ?_ (fC (by first | rfl | exact congrArg (Value.int _) (by first | omega | assumption | (symm; assumption) | (simp; done) | (simp; omega)) | exact congrArg (fun n => Value.slice _ n _) (by first | simp; done | simp; omega)) (fN _)) ?_   -- loop 1
  · exact ⟨by omega, H⟩
  · rintro i ρx w3 ⟨hi, H⟩
    refine sq ?_
    refine rg ?_
    refine lss rfl rfl rfl ?_
    refine nl ?_
    refine then_n ?_
    refine sq ?_
    first | refine cd rfl (fun hc2 => ?_) (fun hc2 => ?_) | refine cn rfl (fun hc2 => ?_) (fun hc2 => ?_)   -- test 2
    · have hfi : ((ds.getD (446 + 16 * i + (0 : Int).toNat * 1) 0).toNat : Int) = 0 ∨ ((ds.getD (446 + 16 * i + (0 : Int).toNat * 1) 0).toNat : Int) = 128 := hf i (by omega)
      have hal : ((arr4 (mpsOf ds) i).flatMap MP.cells).length = 44 := by rw [flat_len MP.cells_len, arr4_len hi (by omega)]
      refine sk ?_
      refine then_n ?_
      refine sq ?_
      refine bk ?_
      refine sq ?_
      refine rg ?_
      refine mv (v := .int .i64 _) rfl rfl ?_
      refine asg (v := .int .i64 _) rfl rfl ?_
      refine nl ?_
      refine then_n ?_
      refine sq ?_
      refine rg ?_
      refine mv (v := .slice _ _ _) rfl rfl ?_
      refine mv (v := .int .i64 _) rfl rfl ?_
      refine mul rfl rfl (by first | exact w_i64 (by omega) | exact w_i64 (rng_i64 _) | rfl) rfl ?_
      refine add rfl rfl (by first | exact w_i64 (by omega) | exact w_i64 (rng_i64 _) | rfl) rfl ?_
      refine mv (v := .int .i64 _) rfl rfl ?_
      refine mul rfl rfl (by first | exact w_i64 (by omega) | exact w_i64 (rng_i64 _) | rfl) rfl ?_
      refine add rfl rfl (by first | exact w_i64 (by omega) | exact w_i64 (rng_i64 _) | rfl) rfl ?_
      refine sllhN (446 + 16 * i) (16) (c - (446 + 16 * i)) rfl rfl rfl Try.underlying30 sz5_1 (by omega) (by omega) rfl ?_
      refine asg (v := .slice _ _ _) rfl rfl ?_
      refine nl ?_
      refine then_n ?_
      refine sq ?_
      refine sq ?_
      refine rg ?_
      refine mv (v := .slice _ _ _) rfl rfl ?_
      first | refine ia rfl rfl Try.underlying30 sz5_1 (by omega) rfl ?_ | refine iA rfl rfl Try.underlying30 sz5_1 (by omega) rfl ?_
      first | (refine ldb H rfl sc5 (by omega) rfl ?_; intro hu3) | refine ld H rfl sc5 rfl rfl ?_ | refine lc rfl (by assumption) sc5 rfl ?_
      refine neq rfl rfl rfl ?_
      refine mv (v := .bool _) rfl rfl ?_
      first | refine spd (t := 38) rfl (fun hg3 => ?_) (fun hg3 => ?_) | refine sp (t := 38) rfl (fun hg3 => ?_) (fun hg3 => ?_)   -- guard 3
      · refine gy rfl ?_
        refine mv (v := .slice _ _ _) rfl rfl ?_
        refine gy rfl ?_
        first | refine ia rfl rfl Try.underlying30 sz5_1 (by omega) rfl ?_ | refine iA rfl rfl Try.underlying30 sz5_1 (by omega) rfl ?_
        refine gy rfl ?_
        first | (refine ldb H rfl sc5 (by omega) rfl ?_; intro hu4) | refine ld H rfl sc5 rfl rfl ?_ | refine lc rfl (by assumption) sc5 rfl ?_
        refine gy rfl ?_
        refine neq rfl rfl rfl ?_
        refine pkT (v := .bool _) rfl rfl rfl ?_
        refine nl ?_
        refine then_n ?_
        first | refine cd rfl (fun hc3 => ?_) (fun hc3 => ?_) | refine cn rfl (fun hc3 => ?_) (fun hc3 => ?_)   -- test 3
        · omega -- END
        · refine sk ?_
          refine then_n ?_
          refine dr (by kernel_rfl) ?_   -- region 10
          have H := H.drew
          refine hold (fun w' => SH w [] w' [⟨b2, .cells ((arr4 (mpsOf ds) i).flatMap MP.cells).toArray 27 (0, 0), true⟩, ⟨b1, .cells ((List.replicate 4 MP.zero).flatMap MP.cells).toArray 27 (0, 0), true⟩, ⟨b, .cells (Bs ds).toArray T fr, false⟩]) [39] ?_
          refine tk (i := 0) rfl (by kernel_rfl) rfl (H.sub (by repeat (first | exact List.Sublist.refl _ | exact List.nil_sublist _ | apply List.Sublist.cons_cons | apply List.Sublist.cons))) (fun w' H => r_mv (v := .int .i64 _) rfl) ?_
          refine tk (i := 1) rfl (by kernel_rfl) rfl (H.sub (by repeat (first | exact List.Sublist.refl _ | exact List.nil_sublist _ | apply List.Sublist.cons_cons | apply List.Sublist.cons))) (fun w' H => r_mv (v := .int .i64 _) rfl) ?_
          refine tk (i := 2) rfl (by kernel_rfl) rfl (H.sub (by repeat (first | exact List.Sublist.refl _ | exact List.nil_sublist _ | apply List.Sublist.cons_cons | apply List.Sublist.cons))) (fun w' H => r_add rfl rfl (by first | exact w_i64 (by omega) | exact w_i64 (rng_i64 _) | rfl)) ?_
          refine tk (i := 3) rfl (by kernel_rfl) rfl (H.sub (by repeat (first | exact List.Sublist.refl _ | exact List.nil_sublist _ | apply List.Sublist.cons_cons | apply List.Sublist.cons))) (fun w' H => r_mv (v := .slice _ _ _) rfl) ?_
          first | refine tk (i := 4) rfl (by kernel_rfl) rfl (H.sub (by repeat (first | exact List.Sublist.refl _ | exact List.nil_sublist _ | apply List.Sublist.cons_cons | apply List.Sublist.cons))) (fun w' H => r_ia rfl rfl Try.underlying30 sz5_1 (by omega)) ?_ | refine tk (i := 4) rfl (by kernel_rfl) rfl (H.sub (by repeat (first | exact List.Sublist.refl _ | exact List.nil_sublist _ | apply List.Sublist.cons_cons | apply List.Sublist.cons))) (fun w' H => r_iA rfl rfl Try.underlying30 sz5_1 (by omega)) ?_
          first | refine tk (i := 5) rfl (by kernel_rfl) rfl (H.sub (by repeat (first | exact List.Sublist.refl _ | exact List.nil_sublist _ | apply List.Sublist.cons_cons | apply List.Sublist.cons))) (fun w' H => r_ldb H rfl sc5 (by omega)) ?_ | refine tk (i := 5) rfl (by kernel_rfl) rfl (H.sub (by repeat (first | exact List.Sublist.refl _ | exact List.nil_sublist _ | apply List.Sublist.cons_cons | apply List.Sublist.cons))) (fun w' H => r_ld H rfl sc5 rfl) ?_ | refine tk (i := 5) rfl (by kernel_rfl) rfl (H.sub (by repeat (first | exact List.Sublist.refl _ | exact List.nil_sublist _ | apply List.Sublist.cons_cons | apply List.Sublist.cons))) (fun w' H => r_lc rfl (by assumption) sc5) ?_
          refine tk (i := 6) rfl (by kernel_rfl) rfl (H.sub (by repeat (first | exact List.Sublist.refl _ | exact List.nil_sublist _ | apply List.Sublist.cons_cons | apply List.Sublist.cons))) (fun w' H => r_eql rfl rfl) ?_
          refine tk (i := 7) rfl (by kernel_rfl) rfl (H.sub (by repeat (first | exact List.Sublist.refl _ | exact List.nil_sublist _ | apply List.Sublist.cons_cons | apply List.Sublist.cons))) (fun w' H => r_mv (v := .slice _ _ _) rfl) ?_
          first | refine tk (i := 8) rfl (by kernel_rfl) rfl (H.sub (by repeat (first | exact List.Sublist.refl _ | exact List.nil_sublist _ | apply List.Sublist.cons_cons | apply List.Sublist.cons))) (fun w' H => r_ia rfl rfl Try.underlying30 sz5_1 (by omega)) ?_ | refine tk (i := 8) rfl (by kernel_rfl) rfl (H.sub (by repeat (first | exact List.Sublist.refl _ | exact List.nil_sublist _ | apply List.Sublist.cons_cons | apply List.Sublist.cons))) (fun w' H => r_iA rfl rfl Try.underlying30 sz5_1 (by omega)) ?_
          first | refine tk (i := 9) rfl (by kernel_rfl) rfl (H.sub (by repeat (first | exact List.Sublist.refl _ | exact List.nil_sublist _ | apply List.Sublist.cons_cons | apply List.Sublist.cons))) (fun w' H => r_ldb H rfl sc5 (by omega)) ?_ | refine tk (i := 9) rfl (by kernel_rfl) rfl (H.sub (by repeat (first | exact List.Sublist.refl _ | exact List.nil_sublist _ | apply List.Sublist.cons_cons | apply List.Sublist.cons))) (fun w' H => r_ld H rfl sc5 rfl) ?_ | refine tk (i := 9) rfl (by kernel_rfl) rfl (H.sub (by repeat (first | exact List.Sublist.refl _ | exact List.nil_sublist _ | apply List.Sublist.cons_cons | apply List.Sublist.cons))) (fun w' H => r_lc rfl (by assumption) sc5) ?_
          refine tk (i := 10) rfl (by kernel_rfl) rfl (H.sub (by repeat (first | exact List.Sublist.refl _ | exact List.nil_sublist _ | apply List.Sublist.cons_cons | apply List.Sublist.cons))) (fun w' H => r_mv (v := .slice _ _ _) rfl) ?_
          refine tk (i := 11) rfl (by kernel_rfl) rfl (H.sub (by repeat (first | exact List.Sublist.refl _ | exact List.nil_sublist _ | apply List.Sublist.cons_cons | apply List.Sublist.cons))) (fun w' H => r_sllh rfl rfl rfl Try.underlying30 sz5_1 (by first | trivial | omega | (simp; omega))) ?_
          refine tk (i := 14) rfl (by kernel_rfl) rfl (H.sub (by repeat (first | exact List.Sublist.refl _ | exact List.nil_sublist _ | apply List.Sublist.cons_cons | apply List.Sublist.cons))) (fun w' H => r_mv (v := .slice _ _ _) rfl) ?_
          refine tk (i := 15) rfl (by kernel_rfl) rfl (H.sub (by repeat (first | exact List.Sublist.refl _ | exact List.nil_sublist _ | apply List.Sublist.cons_cons | apply List.Sublist.cons))) (fun w' H => r_sllh rfl rfl rfl Try.underlying30 sz5_1 (by first | trivial | omega | (simp; omega))) ?_
          refine tk (i := 18) rfl (by kernel_rfl) rfl (H.sub (by repeat (first | exact List.Sublist.refl _ | exact List.nil_sublist _ | apply List.Sublist.cons_cons | apply List.Sublist.cons))) (fun w' H => r_mv (v := .slice _ _ _) rfl) ?_
          first | refine tk (i := 19) rfl (by kernel_rfl) rfl (H.sub (by repeat (first | exact List.Sublist.refl _ | exact List.nil_sublist _ | apply List.Sublist.cons_cons | apply List.Sublist.cons))) (fun w' H => r_ia rfl rfl Try.underlying30 sz5_1 (by omega)) ?_ | refine tk (i := 19) rfl (by kernel_rfl) rfl (H.sub (by repeat (first | exact List.Sublist.refl _ | exact List.nil_sublist _ | apply List.Sublist.cons_cons | apply List.Sublist.cons))) (fun w' H => r_iA rfl rfl Try.underlying30 sz5_1 (by omega)) ?_
          first | refine tk (i := 20) rfl (by kernel_rfl) rfl (H.sub (by repeat (first | exact List.Sublist.refl _ | exact List.nil_sublist _ | apply List.Sublist.cons_cons | apply List.Sublist.cons))) (fun w' H => r_ldb H rfl sc5 (by omega)) ?_ | refine tk (i := 20) rfl (by kernel_rfl) rfl (H.sub (by repeat (first | exact List.Sublist.refl _ | exact List.nil_sublist _ | apply List.Sublist.cons_cons | apply List.Sublist.cons))) (fun w' H => r_ld H rfl sc5 rfl) ?_ | refine tk (i := 20) rfl (by kernel_rfl) rfl (H.sub (by repeat (first | exact List.Sublist.refl _ | exact List.nil_sublist _ | apply List.Sublist.cons_cons | apply List.Sublist.cons))) (fun w' H => r_lc rfl (by assumption) sc5) ?_
          refine tk (i := 21) rfl (by kernel_rfl) rfl (H.sub (by repeat (first | exact List.Sublist.refl _ | exact List.nil_sublist _ | apply List.Sublist.cons_cons | apply List.Sublist.cons))) (fun w' H => r_mv (v := .slice _ _ _) rfl) ?_
          first | refine tk (i := 22) rfl (by kernel_rfl) rfl (H.sub (by repeat (first | exact List.Sublist.refl _ | exact List.nil_sublist _ | apply List.Sublist.cons_cons | apply List.Sublist.cons))) (fun w' H => r_ia rfl rfl Try.underlying30 sz5_1 (by omega)) ?_ | refine tk (i := 22) rfl (by kernel_rfl) rfl (H.sub (by repeat (first | exact List.Sublist.refl _ | exact List.nil_sublist _ | apply List.Sublist.cons_cons | apply List.Sublist.cons))) (fun w' H => r_iA rfl rfl Try.underlying30 sz5_1 (by omega)) ?_
          first | refine tk (i := 23) rfl (by kernel_rfl) rfl (H.sub (by repeat (first | exact List.Sublist.refl _ | exact List.nil_sublist _ | apply List.Sublist.cons_cons | apply List.Sublist.cons))) (fun w' H => r_ldb H rfl sc5 (by omega)) ?_ | refine tk (i := 23) rfl (by kernel_rfl) rfl (H.sub (by repeat (first | exact List.Sublist.refl _ | exact List.nil_sublist _ | apply List.Sublist.cons_cons | apply List.Sublist.cons))) (fun w' H => r_ld H rfl sc5 rfl) ?_ | refine tk (i := 23) rfl (by kernel_rfl) rfl (H.sub (by repeat (first | exact List.Sublist.refl _ | exact List.nil_sublist _ | apply List.Sublist.cons_cons | apply List.Sublist.cons))) (fun w' H => r_lc rfl (by assumption) sc5) ?_
          refine tk (i := 24) rfl (by kernel_rfl) rfl (H.sub (by repeat (first | exact List.Sublist.refl _ | exact List.nil_sublist _ | apply List.Sublist.cons_cons | apply List.Sublist.cons))) (fun w' H => r_mv (v := .slice _ _ _) rfl) ?_
          first | refine tk (i := 25) rfl (by kernel_rfl) rfl (H.sub (by repeat (first | exact List.Sublist.refl _ | exact List.nil_sublist _ | apply List.Sublist.cons_cons | apply List.Sublist.cons))) (fun w' H => r_ia rfl rfl Try.underlying30 sz5_1 (by omega)) ?_ | refine tk (i := 25) rfl (by kernel_rfl) rfl (H.sub (by repeat (first | exact List.Sublist.refl _ | exact List.nil_sublist _ | apply List.Sublist.cons_cons | apply List.Sublist.cons))) (fun w' H => r_iA rfl rfl Try.underlying30 sz5_1 (by omega)) ?_
          first | refine tk (i := 26) rfl (by kernel_rfl) rfl (H.sub (by repeat (first | exact List.Sublist.refl _ | exact List.nil_sublist _ | apply List.Sublist.cons_cons | apply List.Sublist.cons))) (fun w' H => r_ldb H rfl sc5 (by omega)) ?_ | refine tk (i := 26) rfl (by kernel_rfl) rfl (H.sub (by repeat (first | exact List.Sublist.refl _ | exact List.nil_sublist _ | apply List.Sublist.cons_cons | apply List.Sublist.cons))) (fun w' H => r_ld H rfl sc5 rfl) ?_ | refine tk (i := 26) rfl (by kernel_rfl) rfl (H.sub (by repeat (first | exact List.Sublist.refl _ | exact List.nil_sublist _ | apply List.Sublist.cons_cons | apply List.Sublist.cons))) (fun w' H => r_lc rfl (by assumption) sc5) ?_
          refine tk (i := 27) rfl (by kernel_rfl) rfl (H.sub (by repeat (first | exact List.Sublist.refl _ | exact List.nil_sublist _ | apply List.Sublist.cons_cons | apply List.Sublist.cons))) (fun w' H => r_mv (v := .slice _ _ _) rfl) ?_
          first | refine tk (i := 28) rfl (by kernel_rfl) rfl (H.sub (by repeat (first | exact List.Sublist.refl _ | exact List.nil_sublist _ | apply List.Sublist.cons_cons | apply List.Sublist.cons))) (fun w' H => r_ia rfl rfl Try.underlying30 sz5_1 (by omega)) ?_ | refine tk (i := 28) rfl (by kernel_rfl) rfl (H.sub (by repeat (first | exact List.Sublist.refl _ | exact List.nil_sublist _ | apply List.Sublist.cons_cons | apply List.Sublist.cons))) (fun w' H => r_iA rfl rfl Try.underlying30 sz5_1 (by omega)) ?_
          first | refine tk (i := 29) rfl (by kernel_rfl) rfl (H.sub (by repeat (first | exact List.Sublist.refl _ | exact List.nil_sublist _ | apply List.Sublist.cons_cons | apply List.Sublist.cons))) (fun w' H => r_ldb H rfl sc5 (by omega)) ?_ | refine tk (i := 29) rfl (by kernel_rfl) rfl (H.sub (by repeat (first | exact List.Sublist.refl _ | exact List.nil_sublist _ | apply List.Sublist.cons_cons | apply List.Sublist.cons))) (fun w' H => r_ld H rfl sc5 rfl) ?_ | refine tk (i := 29) rfl (by kernel_rfl) rfl (H.sub (by repeat (first | exact List.Sublist.refl _ | exact List.nil_sublist _ | apply List.Sublist.cons_cons | apply List.Sublist.cons))) (fun w' H => r_lc rfl (by assumption) sc5) ?_
          refine tk (i := 30) rfl (by kernel_rfl) rfl (H.sub (by repeat (first | exact List.Sublist.refl _ | exact List.nil_sublist _ | apply List.Sublist.cons_cons | apply List.Sublist.cons))) (fun w' H => r_mv (v := .slice _ _ _) rfl) ?_
          first | refine tk (i := 31) rfl (by kernel_rfl) rfl (H.sub (by repeat (first | exact List.Sublist.refl _ | exact List.nil_sublist _ | apply List.Sublist.cons_cons | apply List.Sublist.cons))) (fun w' H => r_ia rfl rfl Try.underlying30 sz5_1 (by omega)) ?_ | refine tk (i := 31) rfl (by kernel_rfl) rfl (H.sub (by repeat (first | exact List.Sublist.refl _ | exact List.nil_sublist _ | apply List.Sublist.cons_cons | apply List.Sublist.cons))) (fun w' H => r_iA rfl rfl Try.underlying30 sz5_1 (by omega)) ?_
          first | refine tk (i := 32) rfl (by kernel_rfl) rfl (H.sub (by repeat (first | exact List.Sublist.refl _ | exact List.nil_sublist _ | apply List.Sublist.cons_cons | apply List.Sublist.cons))) (fun w' H => r_ldb H rfl sc5 (by omega)) ?_ | refine tk (i := 32) rfl (by kernel_rfl) rfl (H.sub (by repeat (first | exact List.Sublist.refl _ | exact List.nil_sublist _ | apply List.Sublist.cons_cons | apply List.Sublist.cons))) (fun w' H => r_ld H rfl sc5 rfl) ?_ | refine tk (i := 32) rfl (by kernel_rfl) rfl (H.sub (by repeat (first | exact List.Sublist.refl _ | exact List.nil_sublist _ | apply List.Sublist.cons_cons | apply List.Sublist.cons))) (fun w' H => r_lc rfl (by assumption) sc5) ?_
          refine tk (i := 33) rfl (by kernel_rfl) rfl (H.sub (by repeat (first | exact List.Sublist.refl _ | exact List.nil_sublist _ | apply List.Sublist.cons_cons | apply List.Sublist.cons))) (fun w' H => r_mv (v := .slice _ _ _) rfl) ?_
          first | refine tk (i := 34) rfl (by kernel_rfl) rfl (H.sub (by repeat (first | exact List.Sublist.refl _ | exact List.nil_sublist _ | apply List.Sublist.cons_cons | apply List.Sublist.cons))) (fun w' H => r_ia rfl rfl Try.underlying30 sz5_1 (by omega)) ?_ | refine tk (i := 34) rfl (by kernel_rfl) rfl (H.sub (by repeat (first | exact List.Sublist.refl _ | exact List.nil_sublist _ | apply List.Sublist.cons_cons | apply List.Sublist.cons))) (fun w' H => r_iA rfl rfl Try.underlying30 sz5_1 (by omega)) ?_
          first | refine tk (i := 35) rfl (by kernel_rfl) rfl (H.sub (by repeat (first | exact List.Sublist.refl _ | exact List.nil_sublist _ | apply List.Sublist.cons_cons | apply List.Sublist.cons))) (fun w' H => r_ldb H rfl sc5 (by omega)) ?_ | refine tk (i := 35) rfl (by kernel_rfl) rfl (H.sub (by repeat (first | exact List.Sublist.refl _ | exact List.nil_sublist _ | apply List.Sublist.cons_cons | apply List.Sublist.cons))) (fun w' H => r_ld H rfl sc5 rfl) ?_ | refine tk (i := 35) rfl (by kernel_rfl) rfl (H.sub (by repeat (first | exact List.Sublist.refl _ | exact List.nil_sublist _ | apply List.Sublist.cons_cons | apply List.Sublist.cons))) (fun w' H => r_lc rfl (by assumption) sc5) ?_
          refine tkbu (out := ?o13) (i := 36) rfl (by kernel_rfl) rfl (H.sub (by repeat (first | exact List.Sublist.refl _ | exact List.nil_sublist _ | apply List.Sublist.cons_cons | apply List.Sublist.cons))) ze24 bo24 ?f13 ?_
          case f13 =>
            refine FL.one (v := .int .u8 _) rfl pl24_0 rfl (by first | decide | simp) ?_
            refine FL.one (v := .int .u8 _) rfl pl24_1 rfl (by first | decide | simp) ?_
            refine FL.one (v := .int .u8 _) rfl pl24_2 rfl (by first | decide | simp) ?_
            refine FL.one (v := .int .u8 _) rfl pl24_3 rfl (by first | decide | simp) ?_
            refine FL.one (v := .int .u8 _) rfl pl24_4 rfl (by first | decide | simp) ?_
            refine FL.one (v := .int .u8 _) rfl pl24_5 rfl (by first | decide | simp) ?_
            exact FL.nil
          refine fk (i := 12) (by kernel_rfl) rfl rfl rfl ?_
          refine cl ca22 (c_le _ _ _ _ _ _ _ _ H.look (by omega) (by decide)) rfl ?_
          rintro _ w4 ⟨rfl, F⟩
          replace H := H.keep F; clear F
          refine nl ?_
          refine then_n ?_
          refine ⟨H.sub (by repeat (first | exact List.Sublist.refl _ | exact List.nil_sublist _ | apply List.Sublist.cons_cons | apply List.Sublist.cons)), ?_⟩
          refine tk (i := 13) rfl (by kernel_rfl) rfl (H.sub (by repeat (first | exact List.Sublist.refl _ | exact List.nil_sublist _ | apply List.Sublist.cons_cons | apply List.Sublist.cons))) (fun w' H => r_cvi (c := leV ((ds.drop (446 + 16 * i + 8)).take 4)) rfl rfl Try.underlying23 (w_u32 (le4_rng _))) ?_
          refine fk (i := 16) (by kernel_rfl) rfl rfl rfl ?_
          refine cl ca22 (c_le _ _ _ _ _ _ _ _ H.look (by omega) (by decide)) rfl ?_
          rintro _ w5 ⟨rfl, F⟩
          replace H := H.keep F; clear F
          refine nl ?_
          refine then_n ?_
          refine ⟨H.sub (by repeat (first | exact List.Sublist.refl _ | exact List.nil_sublist _ | apply List.Sublist.cons_cons | apply List.Sublist.cons)), ?_⟩
          refine tk (i := 17) rfl (by kernel_rfl) rfl (H.sub (by repeat (first | exact List.Sublist.refl _ | exact List.nil_sublist _ | apply List.Sublist.cons_cons | apply List.Sublist.cons))) (fun w' H => r_cvi (c := leV ((ds.drop (446 + 16 * i + 12)).take 4)) rfl rfl Try.underlying23 (w_u32 (le4_rng _))) ?_
          refine tkbu (out := ?o14) (i := 37) rfl (by kernel_rfl) rfl (H.sub (by repeat (first | exact List.Sublist.refl _ | exact List.nil_sublist _ | apply List.Sublist.cons_cons | apply List.Sublist.cons))) ze26 bo26 ?f14 ?_
          case f14 =>
            refine FL.one (v := .int .i64 _) rfl pl26_0 rfl (by first | decide | simp) ?_
            refine FL.one (v := .bool _) rfl pl26_1 rfl (by first | decide | simp) ?_
            refine FL.one (v := .int .u8 _) rfl pl26_2 rfl (by first | decide | simp) ?_
            refine FL.one (v := .int .u32 _) rfl pl26_3 rfl (by first | decide | simp) ?_
            refine FL.one (v := .int .u32 _) rfl pl26_4 rfl (by first | decide | simp) ?_
            refine FL.agg rfl pl26_5 rfl (by first | decide | simp) ?_
            exact FL.nil
          first | refine tk (i := 38) rfl (by kernel_rfl) rfl (H.sub (by repeat (first | exact List.Sublist.refl _ | exact List.nil_sublist _ | apply List.Sublist.cons_cons | apply List.Sublist.cons))) (fun w' H => r_iy rfl rfl Try.underlying27 sz26_11 (by omega)) ?_ | refine tk (i := 38) rfl (by kernel_rfl) rfl (H.sub (by repeat (first | exact List.Sublist.refl _ | exact List.nil_sublist _ | apply List.Sublist.cons_cons | apply List.Sublist.cons))) (fun w' H => r_iyB rfl rfl Try.underlying27 sz26_11 (by omega)) ?_
          refine fb (i := 39) (by kernel_rfl) rfl rfl rfl ?_
          refine sa (vs := (mpAt ds (446 + 16 * i) (i + 1)).cells) (cs' := (arr4 (mpsOf ds) (i + 1)).flatMap MP.cells) H rfl rfl ag26_11 rfl rfl (by rw [hal]; omega) (by omega) (by rw [show 0 + (i : Int).toNat * 11 = i * 11 by omega]; exact arr4_put (mpsOf_get (by omega)) (by omega)) ?_
          clear H; intro w90 H _
          refine nl ?_
          refine then_n ?_
          refine dn (by kernel_rfl) ?_
          refine in_n ?_
          refine then_n ?_
          refine rg ?_
          refine add rfl rfl (by first | exact w_i64 (by omega) | exact w_i64 (rng_i64 _) | rfl) rfl ?_
          refine mv (v := .int .i64 _) rfl rfl ?_
          refine nl ?_
          refine loop_n ?_
          exact ⟨i + 1, (by (try dsimp only); omega), ⟨by omega, H⟩, (fC (by first | rfl | exact congrArg (Value.int _) (by first | omega | assumption | (symm; assumption) | (simp; done) | (simp; omega)) | exact congrArg (fun n => Value.slice _ n _) (by first | simp; done | simp; omega)) (fN _)), (by repeat (first | exact Agree.setL rfl Agree.mask | exact Agree.self _ _ | refine Agree.upd rfl ?_ | refine Agree.setL rfl ?_ | refine Agree.mask2 rfl ?_))⟩
      · refine gn rfl rfl ?_
        refine gn rfl rfl ?_
        refine gn rfl rfl ?_
        refine gn rfl rfl ?_
        refine pkF (v := .bool _) rfl rfl rfl ?_
        refine nl ?_
        refine then_n ?_
        refine cbF rfl rfl ?_
        refine sk ?_
        refine then_n ?_
        refine dr (by kernel_rfl) ?_   -- region 10
        have H := H.drew
        refine hold (fun w' => SH w [] w' [⟨b2, .cells ((arr4 (mpsOf ds) i).flatMap MP.cells).toArray 27 (0, 0), true⟩, ⟨b1, .cells ((List.replicate 4 MP.zero).flatMap MP.cells).toArray 27 (0, 0), true⟩, ⟨b, .cells (Bs ds).toArray T fr, false⟩]) [39] ?_
        refine tk (i := 0) rfl (by kernel_rfl) rfl (H.sub (by repeat (first | exact List.Sublist.refl _ | exact List.nil_sublist _ | apply List.Sublist.cons_cons | apply List.Sublist.cons))) (fun w' H => r_mv (v := .int .i64 _) rfl) ?_
        refine tk (i := 1) rfl (by kernel_rfl) rfl (H.sub (by repeat (first | exact List.Sublist.refl _ | exact List.nil_sublist _ | apply List.Sublist.cons_cons | apply List.Sublist.cons))) (fun w' H => r_mv (v := .int .i64 _) rfl) ?_
        refine tk (i := 2) rfl (by kernel_rfl) rfl (H.sub (by repeat (first | exact List.Sublist.refl _ | exact List.nil_sublist _ | apply List.Sublist.cons_cons | apply List.Sublist.cons))) (fun w' H => r_add rfl rfl (by first | exact w_i64 (by omega) | exact w_i64 (rng_i64 _) | rfl)) ?_
        refine tk (i := 3) rfl (by kernel_rfl) rfl (H.sub (by repeat (first | exact List.Sublist.refl _ | exact List.nil_sublist _ | apply List.Sublist.cons_cons | apply List.Sublist.cons))) (fun w' H => r_mv (v := .slice _ _ _) rfl) ?_
        first | refine tk (i := 4) rfl (by kernel_rfl) rfl (H.sub (by repeat (first | exact List.Sublist.refl _ | exact List.nil_sublist _ | apply List.Sublist.cons_cons | apply List.Sublist.cons))) (fun w' H => r_ia rfl rfl Try.underlying30 sz5_1 (by omega)) ?_ | refine tk (i := 4) rfl (by kernel_rfl) rfl (H.sub (by repeat (first | exact List.Sublist.refl _ | exact List.nil_sublist _ | apply List.Sublist.cons_cons | apply List.Sublist.cons))) (fun w' H => r_iA rfl rfl Try.underlying30 sz5_1 (by omega)) ?_
        first | refine tk (i := 5) rfl (by kernel_rfl) rfl (H.sub (by repeat (first | exact List.Sublist.refl _ | exact List.nil_sublist _ | apply List.Sublist.cons_cons | apply List.Sublist.cons))) (fun w' H => r_ldb H rfl sc5 (by omega)) ?_ | refine tk (i := 5) rfl (by kernel_rfl) rfl (H.sub (by repeat (first | exact List.Sublist.refl _ | exact List.nil_sublist _ | apply List.Sublist.cons_cons | apply List.Sublist.cons))) (fun w' H => r_ld H rfl sc5 rfl) ?_ | refine tk (i := 5) rfl (by kernel_rfl) rfl (H.sub (by repeat (first | exact List.Sublist.refl _ | exact List.nil_sublist _ | apply List.Sublist.cons_cons | apply List.Sublist.cons))) (fun w' H => r_lc rfl (by assumption) sc5) ?_
        refine tk (i := 6) rfl (by kernel_rfl) rfl (H.sub (by repeat (first | exact List.Sublist.refl _ | exact List.nil_sublist _ | apply List.Sublist.cons_cons | apply List.Sublist.cons))) (fun w' H => r_eql rfl rfl) ?_
        refine tk (i := 7) rfl (by kernel_rfl) rfl (H.sub (by repeat (first | exact List.Sublist.refl _ | exact List.nil_sublist _ | apply List.Sublist.cons_cons | apply List.Sublist.cons))) (fun w' H => r_mv (v := .slice _ _ _) rfl) ?_
        first | refine tk (i := 8) rfl (by kernel_rfl) rfl (H.sub (by repeat (first | exact List.Sublist.refl _ | exact List.nil_sublist _ | apply List.Sublist.cons_cons | apply List.Sublist.cons))) (fun w' H => r_ia rfl rfl Try.underlying30 sz5_1 (by omega)) ?_ | refine tk (i := 8) rfl (by kernel_rfl) rfl (H.sub (by repeat (first | exact List.Sublist.refl _ | exact List.nil_sublist _ | apply List.Sublist.cons_cons | apply List.Sublist.cons))) (fun w' H => r_iA rfl rfl Try.underlying30 sz5_1 (by omega)) ?_
        first | refine tk (i := 9) rfl (by kernel_rfl) rfl (H.sub (by repeat (first | exact List.Sublist.refl _ | exact List.nil_sublist _ | apply List.Sublist.cons_cons | apply List.Sublist.cons))) (fun w' H => r_ldb H rfl sc5 (by omega)) ?_ | refine tk (i := 9) rfl (by kernel_rfl) rfl (H.sub (by repeat (first | exact List.Sublist.refl _ | exact List.nil_sublist _ | apply List.Sublist.cons_cons | apply List.Sublist.cons))) (fun w' H => r_ld H rfl sc5 rfl) ?_ | refine tk (i := 9) rfl (by kernel_rfl) rfl (H.sub (by repeat (first | exact List.Sublist.refl _ | exact List.nil_sublist _ | apply List.Sublist.cons_cons | apply List.Sublist.cons))) (fun w' H => r_lc rfl (by assumption) sc5) ?_
        refine tk (i := 10) rfl (by kernel_rfl) rfl (H.sub (by repeat (first | exact List.Sublist.refl _ | exact List.nil_sublist _ | apply List.Sublist.cons_cons | apply List.Sublist.cons))) (fun w' H => r_mv (v := .slice _ _ _) rfl) ?_
        refine tk (i := 11) rfl (by kernel_rfl) rfl (H.sub (by repeat (first | exact List.Sublist.refl _ | exact List.nil_sublist _ | apply List.Sublist.cons_cons | apply List.Sublist.cons))) (fun w' H => r_sllh rfl rfl rfl Try.underlying30 sz5_1 (by first | trivial | omega | (simp; omega))) ?_
        refine tk (i := 14) rfl (by kernel_rfl) rfl (H.sub (by repeat (first | exact List.Sublist.refl _ | exact List.nil_sublist _ | apply List.Sublist.cons_cons | apply List.Sublist.cons))) (fun w' H => r_mv (v := .slice _ _ _) rfl) ?_
        refine tk (i := 15) rfl (by kernel_rfl) rfl (H.sub (by repeat (first | exact List.Sublist.refl _ | exact List.nil_sublist _ | apply List.Sublist.cons_cons | apply List.Sublist.cons))) (fun w' H => r_sllh rfl rfl rfl Try.underlying30 sz5_1 (by first | trivial | omega | (simp; omega))) ?_
        refine tk (i := 18) rfl (by kernel_rfl) rfl (H.sub (by repeat (first | exact List.Sublist.refl _ | exact List.nil_sublist _ | apply List.Sublist.cons_cons | apply List.Sublist.cons))) (fun w' H => r_mv (v := .slice _ _ _) rfl) ?_
        first | refine tk (i := 19) rfl (by kernel_rfl) rfl (H.sub (by repeat (first | exact List.Sublist.refl _ | exact List.nil_sublist _ | apply List.Sublist.cons_cons | apply List.Sublist.cons))) (fun w' H => r_ia rfl rfl Try.underlying30 sz5_1 (by omega)) ?_ | refine tk (i := 19) rfl (by kernel_rfl) rfl (H.sub (by repeat (first | exact List.Sublist.refl _ | exact List.nil_sublist _ | apply List.Sublist.cons_cons | apply List.Sublist.cons))) (fun w' H => r_iA rfl rfl Try.underlying30 sz5_1 (by omega)) ?_
        first | refine tk (i := 20) rfl (by kernel_rfl) rfl (H.sub (by repeat (first | exact List.Sublist.refl _ | exact List.nil_sublist _ | apply List.Sublist.cons_cons | apply List.Sublist.cons))) (fun w' H => r_ldb H rfl sc5 (by omega)) ?_ | refine tk (i := 20) rfl (by kernel_rfl) rfl (H.sub (by repeat (first | exact List.Sublist.refl _ | exact List.nil_sublist _ | apply List.Sublist.cons_cons | apply List.Sublist.cons))) (fun w' H => r_ld H rfl sc5 rfl) ?_ | refine tk (i := 20) rfl (by kernel_rfl) rfl (H.sub (by repeat (first | exact List.Sublist.refl _ | exact List.nil_sublist _ | apply List.Sublist.cons_cons | apply List.Sublist.cons))) (fun w' H => r_lc rfl (by assumption) sc5) ?_
        refine tk (i := 21) rfl (by kernel_rfl) rfl (H.sub (by repeat (first | exact List.Sublist.refl _ | exact List.nil_sublist _ | apply List.Sublist.cons_cons | apply List.Sublist.cons))) (fun w' H => r_mv (v := .slice _ _ _) rfl) ?_
        first | refine tk (i := 22) rfl (by kernel_rfl) rfl (H.sub (by repeat (first | exact List.Sublist.refl _ | exact List.nil_sublist _ | apply List.Sublist.cons_cons | apply List.Sublist.cons))) (fun w' H => r_ia rfl rfl Try.underlying30 sz5_1 (by omega)) ?_ | refine tk (i := 22) rfl (by kernel_rfl) rfl (H.sub (by repeat (first | exact List.Sublist.refl _ | exact List.nil_sublist _ | apply List.Sublist.cons_cons | apply List.Sublist.cons))) (fun w' H => r_iA rfl rfl Try.underlying30 sz5_1 (by omega)) ?_
        first | refine tk (i := 23) rfl (by kernel_rfl) rfl (H.sub (by repeat (first | exact List.Sublist.refl _ | exact List.nil_sublist _ | apply List.Sublist.cons_cons | apply List.Sublist.cons))) (fun w' H => r_ldb H rfl sc5 (by omega)) ?_ | refine tk (i := 23) rfl (by kernel_rfl) rfl (H.sub (by repeat (first | exact List.Sublist.refl _ | exact List.nil_sublist _ | apply List.Sublist.cons_cons | apply List.Sublist.cons))) (fun w' H => r_ld H rfl sc5 rfl) ?_ | refine tk (i := 23) rfl (by kernel_rfl) rfl (H.sub (by repeat (first | exact List.Sublist.refl _ | exact List.nil_sublist _ | apply List.Sublist.cons_cons | apply List.Sublist.cons))) (fun w' H => r_lc rfl (by assumption) sc5) ?_
        refine tk (i := 24) rfl (by kernel_rfl) rfl (H.sub (by repeat (first | exact List.Sublist.refl _ | exact List.nil_sublist _ | apply List.Sublist.cons_cons | apply List.Sublist.cons))) (fun w' H => r_mv (v := .slice _ _ _) rfl) ?_
        first | refine tk (i := 25) rfl (by kernel_rfl) rfl (H.sub (by repeat (first | exact List.Sublist.refl _ | exact List.nil_sublist _ | apply List.Sublist.cons_cons | apply List.Sublist.cons))) (fun w' H => r_ia rfl rfl Try.underlying30 sz5_1 (by omega)) ?_ | refine tk (i := 25) rfl (by kernel_rfl) rfl (H.sub (by repeat (first | exact List.Sublist.refl _ | exact List.nil_sublist _ | apply List.Sublist.cons_cons | apply List.Sublist.cons))) (fun w' H => r_iA rfl rfl Try.underlying30 sz5_1 (by omega)) ?_
        first | refine tk (i := 26) rfl (by kernel_rfl) rfl (H.sub (by repeat (first | exact List.Sublist.refl _ | exact List.nil_sublist _ | apply List.Sublist.cons_cons | apply List.Sublist.cons))) (fun w' H => r_ldb H rfl sc5 (by omega)) ?_ | refine tk (i := 26) rfl (by kernel_rfl) rfl (H.sub (by repeat (first | exact List.Sublist.refl _ | exact List.nil_sublist _ | apply List.Sublist.cons_cons | apply List.Sublist.cons))) (fun w' H => r_ld H rfl sc5 rfl) ?_ | refine tk (i := 26) rfl (by kernel_rfl) rfl (H.sub (by repeat (first | exact List.Sublist.refl _ | exact List.nil_sublist _ | apply List.Sublist.cons_cons | apply List.Sublist.cons))) (fun w' H => r_lc rfl (by assumption) sc5) ?_
        refine tk (i := 27) rfl (by kernel_rfl) rfl (H.sub (by repeat (first | exact List.Sublist.refl _ | exact List.nil_sublist _ | apply List.Sublist.cons_cons | apply List.Sublist.cons))) (fun w' H => r_mv (v := .slice _ _ _) rfl) ?_
        first | refine tk (i := 28) rfl (by kernel_rfl) rfl (H.sub (by repeat (first | exact List.Sublist.refl _ | exact List.nil_sublist _ | apply List.Sublist.cons_cons | apply List.Sublist.cons))) (fun w' H => r_ia rfl rfl Try.underlying30 sz5_1 (by omega)) ?_ | refine tk (i := 28) rfl (by kernel_rfl) rfl (H.sub (by repeat (first | exact List.Sublist.refl _ | exact List.nil_sublist _ | apply List.Sublist.cons_cons | apply List.Sublist.cons))) (fun w' H => r_iA rfl rfl Try.underlying30 sz5_1 (by omega)) ?_
        first | refine tk (i := 29) rfl (by kernel_rfl) rfl (H.sub (by repeat (first | exact List.Sublist.refl _ | exact List.nil_sublist _ | apply List.Sublist.cons_cons | apply List.Sublist.cons))) (fun w' H => r_ldb H rfl sc5 (by omega)) ?_ | refine tk (i := 29) rfl (by kernel_rfl) rfl (H.sub (by repeat (first | exact List.Sublist.refl _ | exact List.nil_sublist _ | apply List.Sublist.cons_cons | apply List.Sublist.cons))) (fun w' H => r_ld H rfl sc5 rfl) ?_ | refine tk (i := 29) rfl (by kernel_rfl) rfl (H.sub (by repeat (first | exact List.Sublist.refl _ | exact List.nil_sublist _ | apply List.Sublist.cons_cons | apply List.Sublist.cons))) (fun w' H => r_lc rfl (by assumption) sc5) ?_
        refine tk (i := 30) rfl (by kernel_rfl) rfl (H.sub (by repeat (first | exact List.Sublist.refl _ | exact List.nil_sublist _ | apply List.Sublist.cons_cons | apply List.Sublist.cons))) (fun w' H => r_mv (v := .slice _ _ _) rfl) ?_
        first | refine tk (i := 31) rfl (by kernel_rfl) rfl (H.sub (by repeat (first | exact List.Sublist.refl _ | exact List.nil_sublist _ | apply List.Sublist.cons_cons | apply List.Sublist.cons))) (fun w' H => r_ia rfl rfl Try.underlying30 sz5_1 (by omega)) ?_ | refine tk (i := 31) rfl (by kernel_rfl) rfl (H.sub (by repeat (first | exact List.Sublist.refl _ | exact List.nil_sublist _ | apply List.Sublist.cons_cons | apply List.Sublist.cons))) (fun w' H => r_iA rfl rfl Try.underlying30 sz5_1 (by omega)) ?_
        first | refine tk (i := 32) rfl (by kernel_rfl) rfl (H.sub (by repeat (first | exact List.Sublist.refl _ | exact List.nil_sublist _ | apply List.Sublist.cons_cons | apply List.Sublist.cons))) (fun w' H => r_ldb H rfl sc5 (by omega)) ?_ | refine tk (i := 32) rfl (by kernel_rfl) rfl (H.sub (by repeat (first | exact List.Sublist.refl _ | exact List.nil_sublist _ | apply List.Sublist.cons_cons | apply List.Sublist.cons))) (fun w' H => r_ld H rfl sc5 rfl) ?_ | refine tk (i := 32) rfl (by kernel_rfl) rfl (H.sub (by repeat (first | exact List.Sublist.refl _ | exact List.nil_sublist _ | apply List.Sublist.cons_cons | apply List.Sublist.cons))) (fun w' H => r_lc rfl (by assumption) sc5) ?_
        refine tk (i := 33) rfl (by kernel_rfl) rfl (H.sub (by repeat (first | exact List.Sublist.refl _ | exact List.nil_sublist _ | apply List.Sublist.cons_cons | apply List.Sublist.cons))) (fun w' H => r_mv (v := .slice _ _ _) rfl) ?_
        first | refine tk (i := 34) rfl (by kernel_rfl) rfl (H.sub (by repeat (first | exact List.Sublist.refl _ | exact List.nil_sublist _ | apply List.Sublist.cons_cons | apply List.Sublist.cons))) (fun w' H => r_ia rfl rfl Try.underlying30 sz5_1 (by omega)) ?_ | refine tk (i := 34) rfl (by kernel_rfl) rfl (H.sub (by repeat (first | exact List.Sublist.refl _ | exact List.nil_sublist _ | apply List.Sublist.cons_cons | apply List.Sublist.cons))) (fun w' H => r_iA rfl rfl Try.underlying30 sz5_1 (by omega)) ?_
        first | refine tk (i := 35) rfl (by kernel_rfl) rfl (H.sub (by repeat (first | exact List.Sublist.refl _ | exact List.nil_sublist _ | apply List.Sublist.cons_cons | apply List.Sublist.cons))) (fun w' H => r_ldb H rfl sc5 (by omega)) ?_ | refine tk (i := 35) rfl (by kernel_rfl) rfl (H.sub (by repeat (first | exact List.Sublist.refl _ | exact List.nil_sublist _ | apply List.Sublist.cons_cons | apply List.Sublist.cons))) (fun w' H => r_ld H rfl sc5 rfl) ?_ | refine tk (i := 35) rfl (by kernel_rfl) rfl (H.sub (by repeat (first | exact List.Sublist.refl _ | exact List.nil_sublist _ | apply List.Sublist.cons_cons | apply List.Sublist.cons))) (fun w' H => r_lc rfl (by assumption) sc5) ?_
        refine tkbu (out := ?o23) (i := 36) rfl (by kernel_rfl) rfl (H.sub (by repeat (first | exact List.Sublist.refl _ | exact List.nil_sublist _ | apply List.Sublist.cons_cons | apply List.Sublist.cons))) ze24 bo24 ?f23 ?_
        case f23 =>
          refine FL.one (v := .int .u8 _) rfl pl24_0 rfl (by first | decide | simp) ?_
          refine FL.one (v := .int .u8 _) rfl pl24_1 rfl (by first | decide | simp) ?_
          refine FL.one (v := .int .u8 _) rfl pl24_2 rfl (by first | decide | simp) ?_
          refine FL.one (v := .int .u8 _) rfl pl24_3 rfl (by first | decide | simp) ?_
          refine FL.one (v := .int .u8 _) rfl pl24_4 rfl (by first | decide | simp) ?_
          refine FL.one (v := .int .u8 _) rfl pl24_5 rfl (by first | decide | simp) ?_
          exact FL.nil
        refine fk (i := 12) (by kernel_rfl) rfl rfl rfl ?_
        refine cl ca22 (c_le _ _ _ _ _ _ _ _ H.look (by omega) (by decide)) rfl ?_
        rintro _ w6 ⟨rfl, F⟩
        replace H := H.keep F; clear F
        refine nl ?_
        refine then_n ?_
        refine ⟨H.sub (by repeat (first | exact List.Sublist.refl _ | exact List.nil_sublist _ | apply List.Sublist.cons_cons | apply List.Sublist.cons)), ?_⟩
        refine tk (i := 13) rfl (by kernel_rfl) rfl (H.sub (by repeat (first | exact List.Sublist.refl _ | exact List.nil_sublist _ | apply List.Sublist.cons_cons | apply List.Sublist.cons))) (fun w' H => r_cvi (c := leV ((ds.drop (446 + 16 * i + 8)).take 4)) rfl rfl Try.underlying23 (w_u32 (le4_rng _))) ?_
        refine fk (i := 16) (by kernel_rfl) rfl rfl rfl ?_
        refine cl ca22 (c_le _ _ _ _ _ _ _ _ H.look (by omega) (by decide)) rfl ?_
        rintro _ w7 ⟨rfl, F⟩
        replace H := H.keep F; clear F
        refine nl ?_
        refine then_n ?_
        refine ⟨H.sub (by repeat (first | exact List.Sublist.refl _ | exact List.nil_sublist _ | apply List.Sublist.cons_cons | apply List.Sublist.cons)), ?_⟩
        refine tk (i := 17) rfl (by kernel_rfl) rfl (H.sub (by repeat (first | exact List.Sublist.refl _ | exact List.nil_sublist _ | apply List.Sublist.cons_cons | apply List.Sublist.cons))) (fun w' H => r_cvi (c := leV ((ds.drop (446 + 16 * i + 12)).take 4)) rfl rfl Try.underlying23 (w_u32 (le4_rng _))) ?_
        refine tkbu (out := ?o24) (i := 37) rfl (by kernel_rfl) rfl (H.sub (by repeat (first | exact List.Sublist.refl _ | exact List.nil_sublist _ | apply List.Sublist.cons_cons | apply List.Sublist.cons))) ze26 bo26 ?f24 ?_
        case f24 =>
          refine FL.one (v := .int .i64 _) rfl pl26_0 rfl (by first | decide | simp) ?_
          refine FL.one (v := .bool _) rfl pl26_1 rfl (by first | decide | simp) ?_
          refine FL.one (v := .int .u8 _) rfl pl26_2 rfl (by first | decide | simp) ?_
          refine FL.one (v := .int .u32 _) rfl pl26_3 rfl (by first | decide | simp) ?_
          refine FL.one (v := .int .u32 _) rfl pl26_4 rfl (by first | decide | simp) ?_
          refine FL.agg rfl pl26_5 rfl (by first | decide | simp) ?_
          exact FL.nil
        first | refine tk (i := 38) rfl (by kernel_rfl) rfl (H.sub (by repeat (first | exact List.Sublist.refl _ | exact List.nil_sublist _ | apply List.Sublist.cons_cons | apply List.Sublist.cons))) (fun w' H => r_iy rfl rfl Try.underlying27 sz26_11 (by omega)) ?_ | refine tk (i := 38) rfl (by kernel_rfl) rfl (H.sub (by repeat (first | exact List.Sublist.refl _ | exact List.nil_sublist _ | apply List.Sublist.cons_cons | apply List.Sublist.cons))) (fun w' H => r_iyB rfl rfl Try.underlying27 sz26_11 (by omega)) ?_
        refine fb (i := 39) (by kernel_rfl) rfl rfl rfl ?_
        refine sa (vs := (mpAt ds (446 + 16 * i) (i + 1)).cells) (cs' := (arr4 (mpsOf ds) (i + 1)).flatMap MP.cells) H rfl rfl ag26_11 rfl rfl (by rw [hal]; omega) (by omega) (by rw [show 0 + (i : Int).toNat * 11 = i * 11 by omega]; exact arr4_put (mpsOf_get (by omega)) (by omega)) ?_
        clear H; intro w90 H _
        refine nl ?_
        refine then_n ?_
        refine dn (by kernel_rfl) ?_
        refine in_n ?_
        refine then_n ?_
        refine rg ?_
        refine add rfl rfl (by first | exact w_i64 (by omega) | exact w_i64 (rng_i64 _) | rfl) rfl ?_
        refine mv (v := .int .i64 _) rfl rfl ?_
        refine nl ?_
        refine loop_n ?_
        exact ⟨i + 1, (by (try dsimp only); omega), ⟨by omega, H⟩, (fC (by first | rfl | exact congrArg (Value.int _) (by first | omega | assumption | (symm; assumption) | (simp; done) | (simp; omega)) | exact congrArg (fun n => Value.slice _ n _) (by first | simp; done | simp; omega)) (fN _)), (by repeat (first | exact Agree.setL rfl Agree.mask | exact Agree.self _ _ | refine Agree.upd rfl ?_ | refine Agree.setL rfl ?_ | refine Agree.mask2 rfl ?_))⟩
    · obtain rfl : i = 4 := by omega
      have hfin : ((arr4 (mpsOf ds) 4).flatMap MP.cells).take 44 = (mpsOf ds).flatMap MP.cells := rfl
      refine ex ?_
      refine then_e ?_
      refine loop_e ?_
      refine in_hit rfl ?_
      refine then_n ?_
      refine sq ?_
      refine rg ?_
      refine la (vs := (mpsOf ds).flatMap MP.cells) H rfl ag27_44 rfl (by rw [List.drop_zero]; exact hfin) rfl ?_
      refine sa (cs' := (mpsOf ds).flatMap MP.cells) H rfl rfl ag27_44 rfl (List.all_eq_true.2 mp_one) (by decide) (by omega) (List.append_nil _) ?_
      clear H; intro w91 H _
      refine asg (v := .bool _) rfl rfl ?_
      refine nl ?_
      refine then_n ?_
      refine rt ?_
      refine finR_r ?_
      exact ⟨[_, _], ⟨finC rfl (H.look (b := b1)) ag27_44, rfl, trivial⟩, rfl, H.fr⟩

end Go.Proofs.Ytdoiddkogigppaa.X
