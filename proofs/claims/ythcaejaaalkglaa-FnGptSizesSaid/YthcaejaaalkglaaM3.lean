/- Laws and walks on the road to the statement: P1, P2, RunePure, P3, Shape, MbrPure, Steps6. -/
import Derived.Test.YthcaejaaalkglaaM2
import Derived.Test.YthcaejaaalkglaaProg
import Derived.OpenShut
import Derived.ChangeArms
/- Walks of functions, printed by a program of this claim. -/
namespace Go.Proofs.Ythcaejaaalkglaa.X
set_option linter.unusedVariables false
set_option linter.unusedSimpArgs false
open Go Go.RowKit

namespace P1
theorem ag81_16 : aggB Try.prog 81 16 = true := by kernel_rfl
theorem bo81 : buildOK Try.prog 81 = true := by kernel_rfl
theorem pl81_0 : placeOf Try.prog 81 0 = some (0, 1) := by kernel_rfl
theorem pl81_1 : placeOf Try.prog 81 1 = some (1, 1) := by kernel_rfl
theorem pl81_10 : placeOf Try.prog 81 10 = some (10, 1) := by kernel_rfl
theorem pl81_11 : placeOf Try.prog 81 11 = some (11, 1) := by kernel_rfl
theorem pl81_12 : placeOf Try.prog 81 12 = some (12, 1) := by kernel_rfl
theorem pl81_13 : placeOf Try.prog 81 13 = some (13, 1) := by kernel_rfl
theorem pl81_14 : placeOf Try.prog 81 14 = some (14, 1) := by kernel_rfl
theorem pl81_15 : placeOf Try.prog 81 15 = some (15, 1) := by kernel_rfl
theorem pl81_2 : placeOf Try.prog 81 2 = some (2, 1) := by kernel_rfl
theorem pl81_3 : placeOf Try.prog 81 3 = some (3, 1) := by kernel_rfl
theorem pl81_4 : placeOf Try.prog 81 4 = some (4, 1) := by kernel_rfl
theorem pl81_5 : placeOf Try.prog 81 5 = some (5, 1) := by kernel_rfl
theorem pl81_6 : placeOf Try.prog 81 6 = some (6, 1) := by kernel_rfl
theorem pl81_7 : placeOf Try.prog 81 7 = some (7, 1) := by kernel_rfl
theorem pl81_8 : placeOf Try.prog 81 8 = some (8, 1) := by kernel_rfl
theorem pl81_9 : placeOf Try.prog 81 9 = some (9, 1) := by kernel_rfl
theorem sc5 : scalarB Try.prog 5 = true := by kernel_rfl
theorem sz5_1 : sizeB Try.prog 5 1 = true := by kernel_rfl
theorem ze81 : zeroL Try.prog 81 = some [.int .i64 0, .int .i64 0, .int .i64 0, .int .i64 0, .int .i64 0, .int .i64 0, .int .i64 0, .int .i64 0, .int .i64 0, .int .i64 0, .int .i64 0, .int .i64 0, .int .i64 0, .int .i64 0, .int .i64 0, .int .i64 0] := by kernel_rfl

end P1
open P1

set_option maxRecDepth 100000 in
set_option maxHeartbeats 1000000 in
theorem c_specCrc (w : World) (B : Option Addr) (m c : Nat) (bs : List UInt8) (hb : RB w B m bs) (hm : m ≤ 9223372036854775806) : Calls Try.prog 24 #[.slice B m c] w (Ret fun v w' => v = .int .u32 (crc32 bs) ∧ Fr [] w w') := by
  refine enter (fun ρ => ρ 2) Try.func24 rfl rfl rfl (res1 rfl) ?_
  have H := SH.nil w
  have hbl := hb.1
  refine sq ?_
  refine rg ?_
  refine asg (v := .int .u32 _) rfl rfl ?_
  refine nl ?_
  refine then_n ?_
  refine sq ?_
  refine rg ?_
  refine asg (v := .int .u32 _) rfl rfl ?_
  refine nl ?_
  refine then_n ?_
  refine sq ?_
  refine sq ?_
  refine rg ?_
  refine mv (v := .slice _ _ _) rfl rfl ?_
  refine lnS rfl Try.underlying23 rfl ?_
  refine mv (v := .int .i64 _) rfl rfl ?_
  refine nl ?_
  refine then_n ?_
  refine bk ?_
  refine lpM (α := Nat × Int) [3, 5, 6, 9, 10, 11, 12, 13, 14, 15, 16, 17, 18, 19, 20, 21, 22, 23, 24, 25, 26, 27, 28] (fun (i, y) => [(3, .int .u32 y), (9, .int .i64 (i : Int))]) (fun (i, y) w' => i ≤ m ∧ gC bs 4294967295 = gC (bs.drop i) y ∧ SH w [] w' []) (fun (i, y) => m - i) (0, 4294967295) ?_ (fC (by first | rfl | exact congrArg (Value.int _) (by first | omega | assumption | (symm; assumption) | (simp; done) | (simp; omega)) | exact congrArg (fun n => Value.slice _ n _) (by first | omega | (simp; done) | (simp; omega))) (fC (by first | rfl | exact congrArg (Value.int _) (by first | omega | assumption | (symm; assumption) | (simp; done) | (simp; omega)) | exact congrArg (fun n => Value.slice _ n _) (by first | omega | (simp; done) | (simp; omega))) (fN _))) ?_   -- loop 1
  · exact ⟨by omega, by simp, H⟩
  · rintro ⟨i, y⟩ ρx w1 ⟨hi, hy, H⟩
    refine sq ?_
    refine rg ?_
    refine lss rfl rfl rfl ?_
    refine nl ?_
    refine then_n ?_
    refine sq ?_
    first | refine cd rfl (fun hc1 => ?_) (fun hc1 => ?_) | refine cn rfl (fun hc1 => ?_) (fun hc1 => ?_)   -- test 1
    · obtain ⟨ad, rfl, hcell⟩ := hb.2 i (by omega)
      have hcell := H.fr.cell hcell (by simp)
      refine sk ?_
      refine then_n ?_
      refine sq ?_
      refine bk ?_
      refine sq ?_
      refine rg ?_
      first | refine ia rfl rfl Try.underlying23 sz5_1 (by omega) rfl ?_ | refine iA rfl rfl Try.underlying23 sz5_1 (by omega) rfl ?_
      first | (refine ldb H rfl sc5 (by omega) rfl ?_; intro hu1) | refine ld H rfl sc5 rfl rfl ?_ | refine lc rfl (by first | assumption | exact H.fr.cell (by assumption) (by simp)) sc5 rfl ?_
      refine asg (v := .int .u8 _) rfl rfl ?_
      refine nl ?_
      refine then_n ?_
      refine sq ?_
      refine rg ?_
      refine mv (v := .int .u32 _) rfl rfl ?_
      refine mv (v := .int .u8 _) rfl rfl ?_
      refine cvi rfl rfl Try.underlying35 (by first | exact w_u32 (by omega) | exact w_u32 (rng_u32 _) | exact m_u32 _) rfl ?_
      refine bxor rfl rfl rfl rfl ?_
      refine asg (v := .int .u32 _) rfl rfl ?_
      refine nl ?_
      refine then_n ?_
      refine sq ?_
      refine rg ?_
      refine mv (v := .int .i64 _) rfl rfl ?_
      refine nl ?_
      refine then_n ?_
      refine bk ?_
      refine lpM (α := Nat × Int) [3, 6, 17, 18, 19, 20, 21, 22, 23, 24, 25, 26, 27] (fun (j, z) => [(3, .int .u32 z), (17, .int .i64 (j : Int))]) (fun (j, z) w' => j ≤ 8 ∧ gN (8 - j) z = gByte y (bs.getD i 0) ∧ SH w [] w' []) (fun (j, z) => 8 - j) (0, bits .xor .u32 y ((bs.getD i 0).toNat : Int)) ?_ (fC (by first | rfl | exact congrArg (Value.int _) (by first | omega | assumption | (symm; assumption) | (simp; done) | (simp; omega)) | exact congrArg (fun n => Value.slice _ n _) (by first | omega | (simp; done) | (simp; omega))) (fC (by first | rfl | exact congrArg (Value.int _) (by first | omega | assumption | (symm; assumption) | (simp; done) | (simp; omega)) | exact congrArg (fun n => Value.slice _ n _) (by first | omega | (simp; done) | (simp; omega))) (fN _))) ?_   -- loop 2
      · exact ⟨by omega, gByte_eq _ _, H⟩
      · rintro ⟨j, z⟩ ρx w2 ⟨hj, hz, H⟩
        refine sq ?_
        refine rg ?_
        refine lss rfl rfl rfl ?_
        refine nl ?_
        refine then_n ?_
        refine sq ?_
        first | refine cd rfl (fun hc2 => ?_) (fun hc2 => ?_) | refine cn rfl (fun hc2 => ?_) (fun hc2 => ?_)   -- test 2
        · refine sk ?_
          refine then_n ?_
          refine sq ?_
          refine bk ?_
          refine sq ?_
          refine rg ?_
          refine mv (v := .int .u32 _) rfl rfl ?_
          refine band rfl rfl rfl rfl ?_
          refine asg (v := .int .u32 _) rfl rfl ?_
          refine nl ?_
          refine then_n ?_
          refine sq ?_
          refine rg ?_
          refine mv (v := .int .u32 _) rfl rfl ?_
          refine shrK (s := 1) (p := 2) rfl rfl (by decide) (by decide) rfl rfl ?_
          refine asg (v := .int .u32 _) rfl rfl ?_
          refine nl ?_
          refine then_n ?_
          refine sq ?_
          refine rg ?_
          refine mv (v := .int .u32 _) rfl rfl ?_
          refine eql rfl rfl rfl ?_
          refine nl ?_
          refine then_n ?_
          first | refine cd rfl (fun hc3 => ?_) (fun hc3 => ?_) | refine cn rfl (fun hc3 => ?_) (fun hc3 => ?_)   -- test 3
          · refine rg ?_
            refine mv (v := .int .u32 _) rfl rfl ?_
            refine bxor rfl rfl rfl rfl ?_
            refine asg (v := .int .u32 _) rfl rfl ?_
            refine nl ?_
            refine in_n ?_
            refine then_n ?_
            refine rg ?_
            refine add rfl rfl (by first | exact w_i64 (by omega) | exact w_i64 (rng_i64 _) | rfl) rfl ?_
            refine mv (v := .int .i64 _) rfl rfl ?_
            refine nl ?_
            refine loop_n ?_
            exact ⟨(j + 1, bits .xor .u32 (z / 2) 3988292384), (by (try dsimp only); omega), ⟨by omega, by rw [← hz, show 8 - j = (8 - (j + 1)) + 1 by omega]; simp only [gN, gBit]; rw [if_pos (by omega)], H⟩, (fC (by first | rfl | exact congrArg (Value.int _) (by first | omega | assumption | (symm; assumption) | (simp; done) | (simp; omega)) | exact congrArg (fun n => Value.slice _ n _) (by first | omega | (simp; done) | (simp; omega))) (fC (by first | rfl | exact congrArg (Value.int _) (by first | omega | assumption | (symm; assumption) | (simp; done) | (simp; omega)) | exact congrArg (fun n => Value.slice _ n _) (by first | omega | (simp; done) | (simp; omega))) (fN _))), (by repeat (first | exact Agree.setL rfl Agree.mask | exact Agree.self _ _ | refine Agree.upd rfl ?_ | refine Agree.setL rfl ?_ | refine Agree.mask2 rfl ?_))⟩
          · refine sk ?_
            refine in_n ?_
            refine then_n ?_
            refine rg ?_
            refine add rfl rfl (by first | exact w_i64 (by omega) | exact w_i64 (rng_i64 _) | rfl) rfl ?_
            refine mv (v := .int .i64 _) rfl rfl ?_
            refine nl ?_
            refine loop_n ?_
            exact ⟨(j + 1, z / 2), (by (try dsimp only); omega), ⟨by omega, by rw [← hz, show 8 - j = (8 - (j + 1)) + 1 by omega]; simp only [gN, gBit]; rw [if_neg (by have := gAnd1 z; omega)], H⟩, (fC (by first | rfl | exact congrArg (Value.int _) (by first | omega | assumption | (symm; assumption) | (simp; done) | (simp; omega)) | exact congrArg (fun n => Value.slice _ n _) (by first | omega | (simp; done) | (simp; omega))) (fC (by first | rfl | exact congrArg (Value.int _) (by first | omega | assumption | (symm; assumption) | (simp; done) | (simp; omega)) | exact congrArg (fun n => Value.slice _ n _) (by first | omega | (simp; done) | (simp; omega))) (fN _))), (by repeat (first | exact Agree.setL rfl Agree.mask | exact Agree.self _ _ | refine Agree.upd rfl ?_ | refine Agree.setL rfl ?_ | refine Agree.mask2 rfl ?_))⟩
        · refine ex ?_
          refine then_e ?_
          refine loop_e ?_
          refine in_hit rfl ?_
          refine in_n ?_
          refine then_n ?_
          refine rg ?_
          refine add rfl rfl (by first | exact w_i64 (by omega) | exact w_i64 (rng_i64 _) | rfl) rfl ?_
          refine mv (v := .int .i64 _) rfl rfl ?_
          refine nl ?_
          refine loop_n ?_
          exact ⟨(i + 1, z), (by (try dsimp only); omega), ⟨by omega, by rw [hy, gC_drop bs i y (by omega), ← hz, show 8 - j = 0 by omega]; rfl, H⟩, (fC (by first | rfl | exact congrArg (Value.int _) (by first | omega | assumption | (symm; assumption) | (simp; done) | (simp; omega)) | exact congrArg (fun n => Value.slice _ n _) (by first | omega | (simp; done) | (simp; omega))) (fC (by first | rfl | exact congrArg (Value.int _) (by first | omega | assumption | (symm; assumption) | (simp; done) | (simp; omega)) | exact congrArg (fun n => Value.slice _ n _) (by first | omega | (simp; done) | (simp; omega))) (fN _))), (by repeat (first | exact Agree.setL rfl Agree.mask | exact Agree.self _ _ | refine Agree.upd rfl ?_ | refine Agree.setL rfl ?_ | refine Agree.mask2 rfl ?_))⟩
    · refine ex ?_
      refine then_e ?_
      refine loop_e ?_
      refine in_hit rfl ?_
      refine then_n ?_
      refine sq ?_
      refine rg ?_
      refine mv (v := .int .u32 _) rfl rfl ?_
      refine ucompl rfl rfl rfl ?_
      refine asg (v := .int .u32 _) rfl rfl ?_
      refine nl ?_
      refine then_n ?_
      refine rt ?_
      refine fin_r ?_
      refine ⟨congrArg (Value.int .u32) ?_, H.fr⟩
      unfold crc32
      rw [hy, List.drop_of_length_le (by omega)]; rfl

set_option maxRecDepth 100000 in
set_option maxHeartbeats 1000000 in
theorem c_zzCrc (w : World) (B : Option Addr) (m c : Nat) (bs : List UInt8) (hb : RB w B m bs) (hm : m ≤ 9223372036854775806) : Calls Try.prog 44 #[.slice B m c] w (Ret fun v w' => v = .int .u32 (crc32 bs) ∧ Fr [] w w') := by
  refine enter (fun ρ => ρ 2) Try.func44 rfl rfl rfl (res1 rfl) ?_
  have H := SH.nil w
  have hbl := hb.1
  refine sq ?_
  refine rg ?_
  refine asg (v := .int .u32 _) rfl rfl ?_
  refine nl ?_
  refine then_n ?_
  refine sq ?_
  refine rg ?_
  refine asg (v := .int .u32 _) rfl rfl ?_
  refine nl ?_
  refine then_n ?_
  refine sq ?_
  refine sq ?_
  refine rg ?_
  refine mv (v := .slice _ _ _) rfl rfl ?_
  refine lnS rfl Try.underlying23 rfl ?_
  refine mv (v := .int .i64 _) rfl rfl ?_
  refine nl ?_
  refine then_n ?_
  refine bk ?_
  refine lpM (α := Nat × Int) [3, 5, 8, 9, 10, 11, 12, 13, 14, 15, 16, 17, 18, 19, 20, 21, 22, 23, 24, 25, 26, 27] (fun (i, y) => [(3, .int .u32 y), (8, .int .i64 (i : Int))]) (fun (i, y) w' => i ≤ m ∧ gC bs 4294967295 = gC (bs.drop i) y ∧ SH w [] w' []) (fun (i, y) => m - i) (0, 4294967295) ?_ (fC (by first | rfl | exact congrArg (Value.int _) (by first | omega | assumption | (symm; assumption) | (simp; done) | (simp; omega)) | exact congrArg (fun n => Value.slice _ n _) (by first | omega | (simp; done) | (simp; omega))) (fC (by first | rfl | exact congrArg (Value.int _) (by first | omega | assumption | (symm; assumption) | (simp; done) | (simp; omega)) | exact congrArg (fun n => Value.slice _ n _) (by first | omega | (simp; done) | (simp; omega))) (fN _))) ?_   -- loop 1
  · exact ⟨by omega, by simp, H⟩
  · rintro ⟨i, y⟩ ρx w1 ⟨hi, hy, H⟩
    refine sq ?_
    refine rg ?_
    refine lss rfl rfl rfl ?_
    refine nl ?_
    refine then_n ?_
    refine sq ?_
    first | refine cd rfl (fun hc1 => ?_) (fun hc1 => ?_) | refine cn rfl (fun hc1 => ?_) (fun hc1 => ?_)   -- test 1
    · obtain ⟨ad, rfl, hcell⟩ := hb.2 i (by omega)
      have hcell := H.fr.cell hcell (by simp)
      refine sk ?_
      refine then_n ?_
      refine sq ?_
      refine bk ?_
      refine sq ?_
      refine rg ?_
      first | refine ia rfl rfl Try.underlying23 sz5_1 (by omega) rfl ?_ | refine iA rfl rfl Try.underlying23 sz5_1 (by omega) rfl ?_
      first | (refine ldb H rfl sc5 (by omega) rfl ?_; intro hu1) | refine ld H rfl sc5 rfl rfl ?_ | refine lc rfl (by first | assumption | exact H.fr.cell (by assumption) (by simp)) sc5 rfl ?_
      refine asg (v := .int .u8 _) rfl rfl ?_
      refine nl ?_
      refine then_n ?_
      refine sq ?_
      refine rg ?_
      refine mv (v := .int .u32 _) rfl rfl ?_
      refine mv (v := .int .u8 _) rfl rfl ?_
      refine cvi rfl rfl Try.underlying35 (by first | exact w_u32 (by omega) | exact w_u32 (rng_u32 _) | exact m_u32 _) rfl ?_
      refine bxor rfl rfl rfl rfl ?_
      refine asg (v := .int .u32 _) rfl rfl ?_
      refine nl ?_
      refine then_n ?_
      refine sq ?_
      refine rg ?_
      refine mv (v := .int .i64 _) rfl rfl ?_
      refine nl ?_
      refine then_n ?_
      refine bk ?_
      refine lpM (α := Nat × Int) [3, 16, 17, 18, 19, 20, 21, 22, 23, 24, 25, 26] (fun (j, z) => [(3, .int .u32 z), (16, .int .i64 (j : Int))]) (fun (j, z) w' => j ≤ 8 ∧ gN (8 - j) z = gByte y (bs.getD i 0) ∧ SH w [] w' []) (fun (j, z) => 8 - j) (0, bits .xor .u32 y ((bs.getD i 0).toNat : Int)) ?_ (fC (by first | rfl | exact congrArg (Value.int _) (by first | omega | assumption | (symm; assumption) | (simp; done) | (simp; omega)) | exact congrArg (fun n => Value.slice _ n _) (by first | omega | (simp; done) | (simp; omega))) (fC (by first | rfl | exact congrArg (Value.int _) (by first | omega | assumption | (symm; assumption) | (simp; done) | (simp; omega)) | exact congrArg (fun n => Value.slice _ n _) (by first | omega | (simp; done) | (simp; omega))) (fN _))) ?_   -- loop 2
      · exact ⟨by omega, gByte_eq _ _, H⟩
      · rintro ⟨j, z⟩ ρx w2 ⟨hj, hz, H⟩
        refine sq ?_
        refine rg ?_
        refine lss rfl rfl rfl ?_
        refine nl ?_
        refine then_n ?_
        refine sq ?_
        first | refine cd rfl (fun hc2 => ?_) (fun hc2 => ?_) | refine cn rfl (fun hc2 => ?_) (fun hc2 => ?_)   -- test 2
        · refine sk ?_
          refine then_n ?_
          refine sq ?_
          refine bk ?_
          refine sq ?_
          refine rg ?_
          refine mv (v := .int .u32 _) rfl rfl ?_
          refine band rfl rfl rfl rfl ?_
          refine neq rfl rfl rfl ?_
          refine nl ?_
          refine then_n ?_
          first | refine cd rfl (fun hc3 => ?_) (fun hc3 => ?_) | refine cn rfl (fun hc3 => ?_) (fun hc3 => ?_)   -- test 3
          · refine rg ?_
            refine mv (v := .int .u32 _) rfl rfl ?_
            refine shrK (s := 1) (p := 2) rfl rfl (by decide) (by decide) rfl rfl ?_
            refine bxor rfl rfl rfl rfl ?_
            refine asg (v := .int .u32 _) rfl rfl ?_
            refine nl ?_
            refine in_n ?_
            refine then_n ?_
            refine rg ?_
            refine add rfl rfl (by first | exact w_i64 (by omega) | exact w_i64 (rng_i64 _) | rfl) rfl ?_
            refine mv (v := .int .i64 _) rfl rfl ?_
            refine nl ?_
            refine loop_n ?_
            exact ⟨(j + 1, bits .xor .u32 (z / 2) 3988292384), (by (try dsimp only); omega), ⟨by omega, by rw [← hz, show 8 - j = (8 - (j + 1)) + 1 by omega]; simp only [gN, gBit]; rw [if_pos (hc3)], H⟩, (fC (by first | rfl | exact congrArg (Value.int _) (by first | omega | assumption | (symm; assumption) | (simp; done) | (simp; omega)) | exact congrArg (fun n => Value.slice _ n _) (by first | omega | (simp; done) | (simp; omega))) (fC (by first | rfl | exact congrArg (Value.int _) (by first | omega | assumption | (symm; assumption) | (simp; done) | (simp; omega)) | exact congrArg (fun n => Value.slice _ n _) (by first | omega | (simp; done) | (simp; omega))) (fN _))), (by repeat (first | exact Agree.setL rfl Agree.mask | exact Agree.self _ _ | refine Agree.upd rfl ?_ | refine Agree.setL rfl ?_ | refine Agree.mask2 rfl ?_))⟩
          · refine rg ?_
            refine mv (v := .int .u32 _) rfl rfl ?_
            refine shrK (s := 1) (p := 2) rfl rfl (by decide) (by decide) rfl rfl ?_
            refine asg (v := .int .u32 _) rfl rfl ?_
            refine nl ?_
            refine in_n ?_
            refine then_n ?_
            refine rg ?_
            refine add rfl rfl (by first | exact w_i64 (by omega) | exact w_i64 (rng_i64 _) | rfl) rfl ?_
            refine mv (v := .int .i64 _) rfl rfl ?_
            refine nl ?_
            refine loop_n ?_
            exact ⟨(j + 1, z / 2), (by (try dsimp only); omega), ⟨by omega, by rw [← hz, show 8 - j = (8 - (j + 1)) + 1 by omega]; simp only [gN, gBit]; rw [if_neg (hc3)], H⟩, (fC (by first | rfl | exact congrArg (Value.int _) (by first | omega | assumption | (symm; assumption) | (simp; done) | (simp; omega)) | exact congrArg (fun n => Value.slice _ n _) (by first | omega | (simp; done) | (simp; omega))) (fC (by first | rfl | exact congrArg (Value.int _) (by first | omega | assumption | (symm; assumption) | (simp; done) | (simp; omega)) | exact congrArg (fun n => Value.slice _ n _) (by first | omega | (simp; done) | (simp; omega))) (fN _))), (by repeat (first | exact Agree.setL rfl Agree.mask | exact Agree.self _ _ | refine Agree.upd rfl ?_ | refine Agree.setL rfl ?_ | refine Agree.mask2 rfl ?_))⟩
        · refine ex ?_
          refine then_e ?_
          refine loop_e ?_
          refine in_hit rfl ?_
          refine in_n ?_
          refine then_n ?_
          refine rg ?_
          refine add rfl rfl (by first | exact w_i64 (by omega) | exact w_i64 (rng_i64 _) | rfl) rfl ?_
          refine mv (v := .int .i64 _) rfl rfl ?_
          refine nl ?_
          refine loop_n ?_
          exact ⟨(i + 1, z), (by (try dsimp only); omega), ⟨by omega, by rw [hy, gC_drop bs i y (by omega), ← hz, show 8 - j = 0 by omega]; rfl, H⟩, (fC (by first | rfl | exact congrArg (Value.int _) (by first | omega | assumption | (symm; assumption) | (simp; done) | (simp; omega)) | exact congrArg (fun n => Value.slice _ n _) (by first | omega | (simp; done) | (simp; omega))) (fC (by first | rfl | exact congrArg (Value.int _) (by first | omega | assumption | (symm; assumption) | (simp; done) | (simp; omega)) | exact congrArg (fun n => Value.slice _ n _) (by first | omega | (simp; done) | (simp; omega))) (fN _))), (by repeat (first | exact Agree.setL rfl Agree.mask | exact Agree.self _ _ | refine Agree.upd rfl ?_ | refine Agree.setL rfl ?_ | refine Agree.mask2 rfl ?_))⟩
    · refine ex ?_
      refine then_e ?_
      refine loop_e ?_
      refine in_hit rfl ?_
      refine then_n ?_
      refine sq ?_
      refine rg ?_
      refine mv (v := .int .u32 _) rfl rfl ?_
      refine ucompl rfl rfl rfl ?_
      refine asg (v := .int .u32 _) rfl rfl ?_
      refine nl ?_
      refine then_n ?_
      refine rt ?_
      refine fin_r ?_
      refine ⟨congrArg (Value.int .u32) ?_, H.fr⟩
      unfold crc32
      rw [hy, List.drop_of_length_le (by omega)]; rfl

set_option maxRecDepth 100000 in
set_option maxHeartbeats 1000000 in
theorem c_hexOf (w : World) (x : Int) (hx : 0 ≤ x ∧ x ≤ 255) : Calls Try.prog 33 #[.int .u8 x] w (Ret fun v w' => v = .int .i64 (hexN x) ∧ Fr [] w w') := by
  refine enter (fun ρ => ρ 2) Try.func33 rfl rfl rfl (res1 rfl) ?_
  have H := SH.nil w
  refine sq ?_
  refine rg ?_
  refine asg (v := .int .i64 _) rfl rfl ?_
  refine nl ?_
  refine then_n ?_
  refine sq ?_
  refine bk ?_
  refine sq ?_
  refine rg ?_
  refine mv (v := .int .u8 _) rfl rfl ?_
  refine geq rfl rfl rfl ?_
  refine mv (v := .bool _) rfl rfl ?_
  first | refine spd (t := 6) rfl (fun hg1 => ?_) (fun hg1 => ?_) | refine sp (t := 6) rfl (fun hg1 => ?_) (fun hg1 => ?_)   -- guard 1
  · refine gy rfl ?_
    refine mv (v := .int .u8 _) rfl rfl ?_
    refine gy rfl ?_
    refine leq rfl rfl rfl ?_
    refine pkT (v := .bool _) rfl rfl rfl ?_
    refine asg (v := .bool _) rfl rfl ?_
    refine nl ?_
    refine then_n ?_
    first | refine cd rfl (fun hc1 => ?_) (fun hc1 => ?_) | refine cn rfl (fun hc1 => ?_) (fun hc1 => ?_)   -- test 1
    · refine sq ?_
      refine rg ?_
      refine mv (v := .int .u8 _) rfl rfl ?_
      refine sub rfl rfl (by first | exact w_u8 (by omega) | exact w_u8 (rng_u8 _) | exact m_u8 _) rfl ?_
      refine cvi rfl rfl Try.underlying3 (by first | exact w_i64 (by omega) | exact w_i64 (rng_i64 _) | rfl) rfl ?_
      refine asg (v := .int .i64 _) rfl rfl ?_
      refine nl ?_
      refine then_n ?_
      refine rt ?_
      refine in_r ?_
      refine then_r ?_
      refine fin_r ?_
      refine ⟨congrArg (Value.int .i64) ?_, H.fr⟩
      unfold hexN; omega
    · refine sq ?_
      refine rg ?_
      refine mv (v := .int .u8 _) rfl rfl ?_
      refine geq rfl rfl rfl ?_
      refine mv (v := .bool _) rfl rfl ?_
      first | refine spd (t := 16) rfl (fun hg2 => ?_) (fun hg2 => ?_) | refine sp (t := 16) rfl (fun hg2 => ?_) (fun hg2 => ?_)   -- guard 2
      · refine gy rfl ?_
        refine mv (v := .int .u8 _) rfl rfl ?_
        refine gy rfl ?_
        refine leq rfl rfl rfl ?_
        refine pkT (v := .bool _) rfl rfl rfl ?_
        refine asg (v := .bool _) rfl rfl ?_
        refine nl ?_
        refine then_n ?_
        first | refine cd rfl (fun hc2 => ?_) (fun hc2 => ?_) | refine cn rfl (fun hc2 => ?_) (fun hc2 => ?_)   -- test 2
        · refine sq ?_
          refine rg ?_
          refine mv (v := .int .u8 _) rfl rfl ?_
          refine sub rfl rfl (by first | exact w_u8 (by omega) | exact w_u8 (rng_u8 _) | exact m_u8 _) rfl ?_
          refine cvi rfl rfl Try.underlying3 (by first | exact w_i64 (by omega) | exact w_i64 (rng_i64 _) | rfl) rfl ?_
          refine add rfl rfl (by first | exact w_i64 (by omega) | exact w_i64 (rng_i64 _) | rfl) rfl ?_
          refine asg (v := .int .i64 _) rfl rfl ?_
          refine nl ?_
          refine then_n ?_
          refine rt ?_
          refine in_r ?_
          refine then_r ?_
          refine fin_r ?_
          refine ⟨congrArg (Value.int .i64) ?_, H.fr⟩
          unfold hexN; omega
        · refine sq ?_
          refine rg ?_
          refine mv (v := .int .u8 _) rfl rfl ?_
          refine geq rfl rfl rfl ?_
          refine mv (v := .bool _) rfl rfl ?_
          first | refine spd (t := 27) rfl (fun hg3 => ?_) (fun hg3 => ?_) | refine sp (t := 27) rfl (fun hg3 => ?_) (fun hg3 => ?_)   -- guard 3
          · refine gy rfl ?_
            refine mv (v := .int .u8 _) rfl rfl ?_
            refine gy rfl ?_
            refine leq rfl rfl rfl ?_
            refine pkT (v := .bool _) rfl rfl rfl ?_
            refine asg (v := .bool _) rfl rfl ?_
            refine nl ?_
            refine then_n ?_
            first | refine cd rfl (fun hc3 => ?_) (fun hc3 => ?_) | refine cn rfl (fun hc3 => ?_) (fun hc3 => ?_)   -- test 3
            · refine sq ?_
              refine rg ?_
              refine mv (v := .int .u8 _) rfl rfl ?_
              refine sub rfl rfl (by first | exact w_u8 (by omega) | exact w_u8 (rng_u8 _) | exact m_u8 _) rfl ?_
              refine cvi rfl rfl Try.underlying3 (by first | exact w_i64 (by omega) | exact w_i64 (rng_i64 _) | rfl) rfl ?_
              refine add rfl rfl (by first | exact w_i64 (by omega) | exact w_i64 (rng_i64 _) | rfl) rfl ?_
              refine asg (v := .int .i64 _) rfl rfl ?_
              refine nl ?_
              refine then_n ?_
              refine rt ?_
              refine in_r ?_
              refine then_r ?_
              refine fin_r ?_
              refine ⟨congrArg (Value.int .i64) ?_, H.fr⟩
              unfold hexN; omega
            · refine sk ?_
              refine in_n ?_
              refine then_n ?_
              refine sq ?_
              refine rg ?_
              refine asg (v := .int .i64 _) rfl rfl ?_
              refine nl ?_
              refine then_n ?_
              refine rt ?_
              refine fin_r ?_
              refine ⟨congrArg (Value.int .i64) ?_, H.fr⟩
              unfold hexN; omega
          · refine gn rfl rfl ?_
            refine gn rfl rfl ?_
            refine pkF (v := .bool _) rfl rfl rfl ?_
            refine asg (v := .bool _) rfl rfl ?_
            refine nl ?_
            refine then_n ?_
            refine cbF rfl rfl ?_
            refine sk ?_
            refine in_n ?_
            refine then_n ?_
            refine sq ?_
            refine rg ?_
            refine asg (v := .int .i64 _) rfl rfl ?_
            refine nl ?_
            refine then_n ?_
            refine rt ?_
            refine fin_r ?_
            refine ⟨congrArg (Value.int .i64) ?_, H.fr⟩
            unfold hexN; omega
      · refine gn rfl rfl ?_
        refine gn rfl rfl ?_
        refine pkF (v := .bool _) rfl rfl rfl ?_
        refine asg (v := .bool _) rfl rfl ?_
        refine nl ?_
        refine then_n ?_
        refine cbF rfl rfl ?_
        refine sq ?_
        refine rg ?_
        refine mv (v := .int .u8 _) rfl rfl ?_
        refine geq rfl rfl rfl ?_
        refine mv (v := .bool _) rfl rfl ?_
        first | refine spd (t := 27) rfl (fun hg4 => ?_) (fun hg4 => ?_) | refine sp (t := 27) rfl (fun hg4 => ?_) (fun hg4 => ?_)   -- guard 4
        · refine gy rfl ?_
          refine mv (v := .int .u8 _) rfl rfl ?_
          refine gy rfl ?_
          refine leq rfl rfl rfl ?_
          refine pkT (v := .bool _) rfl rfl rfl ?_
          refine asg (v := .bool _) rfl rfl ?_
          refine nl ?_
          refine then_n ?_
          first | refine cd rfl (fun hc4 => ?_) (fun hc4 => ?_) | refine cn rfl (fun hc4 => ?_) (fun hc4 => ?_)   -- test 4
          · refine sq ?_
            refine rg ?_
            refine mv (v := .int .u8 _) rfl rfl ?_
            refine sub rfl rfl (by first | exact w_u8 (by omega) | exact w_u8 (rng_u8 _) | exact m_u8 _) rfl ?_
            refine cvi rfl rfl Try.underlying3 (by first | exact w_i64 (by omega) | exact w_i64 (rng_i64 _) | rfl) rfl ?_
            refine add rfl rfl (by first | exact w_i64 (by omega) | exact w_i64 (rng_i64 _) | rfl) rfl ?_
            refine asg (v := .int .i64 _) rfl rfl ?_
            refine nl ?_
            refine then_n ?_
            refine rt ?_
            refine in_r ?_
            refine then_r ?_
            refine fin_r ?_
            refine ⟨congrArg (Value.int .i64) ?_, H.fr⟩
            unfold hexN; omega
          · refine sk ?_
            refine in_n ?_
            refine then_n ?_
            refine sq ?_
            refine rg ?_
            refine asg (v := .int .i64 _) rfl rfl ?_
            refine nl ?_
            refine then_n ?_
            refine rt ?_
            refine fin_r ?_
            refine ⟨congrArg (Value.int .i64) ?_, H.fr⟩
            unfold hexN; omega
        · refine gn rfl rfl ?_
          refine gn rfl rfl ?_
          refine pkF (v := .bool _) rfl rfl rfl ?_
          refine asg (v := .bool _) rfl rfl ?_
          refine nl ?_
          refine then_n ?_
          refine cbF rfl rfl ?_
          refine sk ?_
          refine in_n ?_
          refine then_n ?_
          refine sq ?_
          refine rg ?_
          refine asg (v := .int .i64 _) rfl rfl ?_
          refine nl ?_
          refine then_n ?_
          refine rt ?_
          refine fin_r ?_
          refine ⟨congrArg (Value.int .i64) ?_, H.fr⟩
          unfold hexN; omega
  · refine gn rfl rfl ?_
    refine gn rfl rfl ?_
    refine pkF (v := .bool _) rfl rfl rfl ?_
    refine asg (v := .bool _) rfl rfl ?_
    refine nl ?_
    refine then_n ?_
    refine cbF rfl rfl ?_
    refine sq ?_
    refine rg ?_
    refine mv (v := .int .u8 _) rfl rfl ?_
    refine geq rfl rfl rfl ?_
    refine mv (v := .bool _) rfl rfl ?_
    first | refine spd (t := 16) rfl (fun hg5 => ?_) (fun hg5 => ?_) | refine sp (t := 16) rfl (fun hg5 => ?_) (fun hg5 => ?_)   -- guard 5
    · refine gy rfl ?_
      refine mv (v := .int .u8 _) rfl rfl ?_
      refine gy rfl ?_
      refine leq rfl rfl rfl ?_
      refine pkT (v := .bool _) rfl rfl rfl ?_
      refine asg (v := .bool _) rfl rfl ?_
      refine nl ?_
      refine then_n ?_
      first | refine cd rfl (fun hc5 => ?_) (fun hc5 => ?_) | refine cn rfl (fun hc5 => ?_) (fun hc5 => ?_)   -- test 5
      · refine sq ?_
        refine rg ?_
        refine mv (v := .int .u8 _) rfl rfl ?_
        refine sub rfl rfl (by first | exact w_u8 (by omega) | exact w_u8 (rng_u8 _) | exact m_u8 _) rfl ?_
        refine cvi rfl rfl Try.underlying3 (by first | exact w_i64 (by omega) | exact w_i64 (rng_i64 _) | rfl) rfl ?_
        refine add rfl rfl (by first | exact w_i64 (by omega) | exact w_i64 (rng_i64 _) | rfl) rfl ?_
        refine asg (v := .int .i64 _) rfl rfl ?_
        refine nl ?_
        refine then_n ?_
        refine rt ?_
        refine in_r ?_
        refine then_r ?_
        refine fin_r ?_
        refine ⟨congrArg (Value.int .i64) ?_, H.fr⟩
        unfold hexN; omega
      · refine sq ?_
        refine rg ?_
        refine mv (v := .int .u8 _) rfl rfl ?_
        refine geq rfl rfl rfl ?_
        refine mv (v := .bool _) rfl rfl ?_
        first | refine spd (t := 27) rfl (fun hg6 => ?_) (fun hg6 => ?_) | refine sp (t := 27) rfl (fun hg6 => ?_) (fun hg6 => ?_)   -- guard 6
        · refine gy rfl ?_
          refine mv (v := .int .u8 _) rfl rfl ?_
          refine gy rfl ?_
          refine leq rfl rfl rfl ?_
          refine pkT (v := .bool _) rfl rfl rfl ?_
          refine asg (v := .bool _) rfl rfl ?_
          refine nl ?_
          refine then_n ?_
          first | refine cd rfl (fun hc6 => ?_) (fun hc6 => ?_) | refine cn rfl (fun hc6 => ?_) (fun hc6 => ?_)   -- test 6
          · refine sq ?_
            refine rg ?_
            refine mv (v := .int .u8 _) rfl rfl ?_
            refine sub rfl rfl (by first | exact w_u8 (by omega) | exact w_u8 (rng_u8 _) | exact m_u8 _) rfl ?_
            refine cvi rfl rfl Try.underlying3 (by first | exact w_i64 (by omega) | exact w_i64 (rng_i64 _) | rfl) rfl ?_
            refine add rfl rfl (by first | exact w_i64 (by omega) | exact w_i64 (rng_i64 _) | rfl) rfl ?_
            refine asg (v := .int .i64 _) rfl rfl ?_
            refine nl ?_
            refine then_n ?_
            refine rt ?_
            refine in_r ?_
            refine then_r ?_
            refine fin_r ?_
            refine ⟨congrArg (Value.int .i64) ?_, H.fr⟩
            unfold hexN; omega
          · refine sk ?_
            refine in_n ?_
            refine then_n ?_
            refine sq ?_
            refine rg ?_
            refine asg (v := .int .i64 _) rfl rfl ?_
            refine nl ?_
            refine then_n ?_
            refine rt ?_
            refine fin_r ?_
            refine ⟨congrArg (Value.int .i64) ?_, H.fr⟩
            unfold hexN; omega
        · refine gn rfl rfl ?_
          refine gn rfl rfl ?_
          refine pkF (v := .bool _) rfl rfl rfl ?_
          refine asg (v := .bool _) rfl rfl ?_
          refine nl ?_
          refine then_n ?_
          refine cbF rfl rfl ?_
          refine sk ?_
          refine in_n ?_
          refine then_n ?_
          refine sq ?_
          refine rg ?_
          refine asg (v := .int .i64 _) rfl rfl ?_
          refine nl ?_
          refine then_n ?_
          refine rt ?_
          refine fin_r ?_
          refine ⟨congrArg (Value.int .i64) ?_, H.fr⟩
          unfold hexN; omega
    · refine gn rfl rfl ?_
      refine gn rfl rfl ?_
      refine pkF (v := .bool _) rfl rfl rfl ?_
      refine asg (v := .bool _) rfl rfl ?_
      refine nl ?_
      refine then_n ?_
      refine cbF rfl rfl ?_
      refine sq ?_
      refine rg ?_
      refine mv (v := .int .u8 _) rfl rfl ?_
      refine geq rfl rfl rfl ?_
      refine mv (v := .bool _) rfl rfl ?_
      first | refine spd (t := 27) rfl (fun hg7 => ?_) (fun hg7 => ?_) | refine sp (t := 27) rfl (fun hg7 => ?_) (fun hg7 => ?_)   -- guard 7
      · refine gy rfl ?_
        refine mv (v := .int .u8 _) rfl rfl ?_
        refine gy rfl ?_
        refine leq rfl rfl rfl ?_
        refine pkT (v := .bool _) rfl rfl rfl ?_
        refine asg (v := .bool _) rfl rfl ?_
        refine nl ?_
        refine then_n ?_
        first | refine cd rfl (fun hc7 => ?_) (fun hc7 => ?_) | refine cn rfl (fun hc7 => ?_) (fun hc7 => ?_)   -- test 7
        · refine sq ?_
          refine rg ?_
          refine mv (v := .int .u8 _) rfl rfl ?_
          refine sub rfl rfl (by first | exact w_u8 (by omega) | exact w_u8 (rng_u8 _) | exact m_u8 _) rfl ?_
          refine cvi rfl rfl Try.underlying3 (by first | exact w_i64 (by omega) | exact w_i64 (rng_i64 _) | rfl) rfl ?_
          refine add rfl rfl (by first | exact w_i64 (by omega) | exact w_i64 (rng_i64 _) | rfl) rfl ?_
          refine asg (v := .int .i64 _) rfl rfl ?_
          refine nl ?_
          refine then_n ?_
          refine rt ?_
          refine in_r ?_
          refine then_r ?_
          refine fin_r ?_
          refine ⟨congrArg (Value.int .i64) ?_, H.fr⟩
          unfold hexN; omega
        · refine sk ?_
          refine in_n ?_
          refine then_n ?_
          refine sq ?_
          refine rg ?_
          refine asg (v := .int .i64 _) rfl rfl ?_
          refine nl ?_
          refine then_n ?_
          refine rt ?_
          refine fin_r ?_
          refine ⟨congrArg (Value.int .i64) ?_, H.fr⟩
          unfold hexN; omega
      · refine gn rfl rfl ?_
        refine gn rfl rfl ?_
        refine pkF (v := .bool _) rfl rfl rfl ?_
        refine asg (v := .bool _) rfl rfl ?_
        refine nl ?_
        refine then_n ?_
        refine cbF rfl rfl ?_
        refine sk ?_
        refine in_n ?_
        refine then_n ?_
        refine sq ?_
        refine rg ?_
        refine asg (v := .int .i64 _) rfl rfl ?_
        refine nl ?_
        refine then_n ?_
        refine rt ?_
        refine fin_r ?_
        refine ⟨congrArg (Value.int .i64) ?_, H.fr⟩
        unfold hexN; omega

set_option maxRecDepth 100000 in
set_option maxHeartbeats 1000000 in
theorem c_guidOrder (w : World)  : Calls Try.prog 32 #[] w (Ret fun v w' => v = .agg (ordL.map fun (k : Nat) => Value.int .i64 (k : Int)).toArray ∧ Fr [] w w') := by
  refine enterR [.cell 0 81] Try.func32 rfl rfl rfl rfl ?_
  have H := SH.nil w
  refine sq ?_
  refine rg ?_
  refine al H ze81 rfl ?_
  clear H; intro b1 w1 hb1 H _
  refine nl ?_
  refine then_n ?_
  refine sq ?_
  refine rg ?_
  refine bu (out := ?o1) ze81 bo81 ?f1 rfl ?_
  case f1 =>
    refine FL.one (v := .int .i64 _) rfl pl81_0 rfl (by first | decide | simp) ?_
    refine FL.one (v := .int .i64 _) rfl pl81_1 rfl (by first | decide | simp) ?_
    refine FL.one (v := .int .i64 _) rfl pl81_2 rfl (by first | decide | simp) ?_
    refine FL.one (v := .int .i64 _) rfl pl81_3 rfl (by first | decide | simp) ?_
    refine FL.one (v := .int .i64 _) rfl pl81_4 rfl (by first | decide | simp) ?_
    refine FL.one (v := .int .i64 _) rfl pl81_5 rfl (by first | decide | simp) ?_
    refine FL.one (v := .int .i64 _) rfl pl81_6 rfl (by first | decide | simp) ?_
    refine FL.one (v := .int .i64 _) rfl pl81_7 rfl (by first | decide | simp) ?_
    refine FL.one (v := .int .i64 _) rfl pl81_8 rfl (by first | decide | simp) ?_
    refine FL.one (v := .int .i64 _) rfl pl81_9 rfl (by first | decide | simp) ?_
    refine FL.one (v := .int .i64 _) rfl pl81_10 rfl (by first | decide | simp) ?_
    refine FL.one (v := .int .i64 _) rfl pl81_11 rfl (by first | decide | simp) ?_
    refine FL.one (v := .int .i64 _) rfl pl81_12 rfl (by first | decide | simp) ?_
    refine FL.one (v := .int .i64 _) rfl pl81_13 rfl (by first | decide | simp) ?_
    refine FL.one (v := .int .i64 _) rfl pl81_14 rfl (by first | decide | simp) ?_
    refine FL.one (v := .int .i64 _) rfl pl81_15 rfl (by first | decide | simp) ?_
    exact FL.nil
  refine sa H rfl rfl ag81_16 rfl rfl (by decide) (by omega) rfl ?_
  clear H; intro w2 H _
  refine nl ?_
  refine then_n ?_
  refine rt ?_
  refine finR_r ?_
  exact ⟨[_], ⟨finC rfl (H.look (b := b1)) ag81_16, trivial⟩, rfl, H.fr⟩

end Go.Proofs.Ythcaejaaalkglaa.X
/- Walks of functions, printed by a program of this claim. -/
namespace Go.Proofs.Ythcaejaaalkglaa.X
set_option linter.unusedVariables false
set_option linter.unusedSimpArgs false
open Go Go.RowKit

namespace P2
theorem ag60_16 : aggB Try.prog 60 16 = true := by kernel_rfl
theorem ag81_16 : aggB Try.prog 81 16 = true := by kernel_rfl
theorem bo60 : buildOK Try.prog 60 = true := by kernel_rfl
theorem ca23 : callable Try.prog 23 = true := by kernel_rfl
theorem ca32 : callable Try.prog 32 = true := by kernel_rfl
theorem ca33 : callable Try.prog 33 = true := by kernel_rfl
theorem eg60 : Try.prog.eqGuardType Try.prog.depth 60 = false := by kernel_rfl
theorem sc3 : scalarB Try.prog 3 = true := by kernel_rfl
theorem sc5 : scalarB Try.prog 5 = true := by kernel_rfl
theorem sz3_1 : sizeB Try.prog 3 1 = true := by kernel_rfl
theorem sz5_1 : sizeB Try.prog 5 1 = true := by kernel_rfl
theorem ze60 : zeroL Try.prog 60 = some [.int .u8 0, .int .u8 0, .int .u8 0, .int .u8 0, .int .u8 0, .int .u8 0, .int .u8 0, .int .u8 0, .int .u8 0, .int .u8 0, .int .u8 0, .int .u8 0, .int .u8 0, .int .u8 0, .int .u8 0, .int .u8 0] := by kernel_rfl
theorem ze81 : zeroL Try.prog 81 = some [.int .i64 0, .int .i64 0, .int .i64 0, .int .i64 0, .int .i64 0, .int .i64 0, .int .i64 0, .int .i64 0, .int .i64 0, .int .i64 0, .int .i64 0, .int .i64 0, .int .i64 0, .int .i64 0, .int .i64 0, .int .i64 0] := by kernel_rfl

end P2
open P2

set_option maxRecDepth 100000 in
set_option maxHeartbeats 1000000 in
theorem c_guidBytes (w : World) (s : List UInt8) : Calls Try.prog 23 #[.string (str s)] w (Ret fun v w' => v = .tuple #[.agg (Bs (gB s)).toArray, .bool (gOk s)] ∧ Fr [] w w') := by
  refine enterR [.cell 2 60, .tmp 3] Try.func23 rfl rfl rfl rfl ?_
  have H := SH.nil w
  have hsz := size_str s
  refine sq ?_
  refine rg ?_
  refine al H ze60 rfl ?_
  clear H; intro b1 w1 hb1 H _
  refine asg (v := .bool _) rfl rfl ?_
  refine nl ?_
  refine then_n ?_
  refine sq ?_
  refine sq ?_
  refine rg ?_
  refine mv (v := .string _) rfl rfl ?_
  refine lnT rfl Try.underlying9 rfl ?_
  refine neq rfl rfl rfl ?_
  refine nl ?_
  refine then_n ?_
  first | refine cd rfl (fun hc1 => ?_) (fun hc1 => ?_) | refine cn rfl (fun hc1 => ?_) (fun hc1 => ?_)   -- test 1
  · refine sq ?_
    refine rg ?_
    refine la (vs := Bs (List.replicate 16 0)) H rfl ag60_16 rfl rfl rfl ?_
    refine sa (cs' := Bs (List.replicate 16 0)) H rfl rfl ag60_16 rfl rfl (by decide) (by omega) rfl ?_
    clear H; intro w91 H _
    refine asg (v := .bool _) rfl rfl ?_
    refine nl ?_
    refine then_n ?_
    refine rt ?_
    refine then_r ?_
    refine finR_r ?_
    rw [gOk_len (by omega), gB_not (gOk_len (by omega))]
    exact ⟨[_, _], ⟨finC rfl (H.look (b := b1)) ag60_16, rfl, trivial⟩, rfl, H.fr⟩
  · have hsl : s.length = 36 := by omega
    refine sk ?_
    refine then_n ?_
    refine sq ?_
    refine rg ?_
    refine cl ca32 (c_guidOrder _) rfl ?_
    rintro _ w2 ⟨rfl, F⟩
    replace H := H.keep F; clear F
    refine al H ze81 rfl ?_
    clear H; intro b2 w3 hb2 H _
    refine sa (cs' := (ordL.map fun (k : Nat) => Value.int .i64 (k : Int))) H rfl rfl ag81_16 rfl rfl (by decide) (by omega) rfl ?_
    clear H; intro w92 H _
    refine nl ?_
    refine then_n ?_
    refine sq ?_
    refine rg ?_
    refine asg (v := .int .i64 _) rfl rfl ?_
    refine nl ?_
    refine then_n ?_
    refine sq ?_
    refine sq ?_
    refine rg ?_
    refine asg (v := .int .i64 _) rfl rfl ?_
    refine nl ?_
    refine then_n ?_
    refine bk ?_
    refine lpM (α := Nat) [3, 5, 6, 7, 13, 14, 15, 16, 17, 18, 19, 20, 21, 22, 23, 24, 25, 26, 27, 28, 29, 30, 31, 32, 33, 34, 35, 36, 37, 38, 39, 40, 41, 42, 43, 44, 45, 46, 47, 48, 49, 50, 51, 52, 53, 54, 55, 56, 57, 58, 59] (fun i => [(5, .int .i64 (cntH i : Int)), (6, .int .i64 (i : Int))]) (fun i w' => i ≤ 36 ∧ (∀ j, j < i → okAt s j = true) ∧ SH w [] w' [⟨b2, .cells (ordL.map fun (k : Nat) => Value.int .i64 (k : Int)).toArray 81 (0, 0), true⟩, ⟨b1, .cells (Bs (gPart s (i))).toArray 60 (0, 0), true⟩]) (fun i => 36 - i) 0 ?_ (fC (by first | rfl | exact congrArg (Value.int _) (by first | omega | assumption | (symm; assumption) | (simp; done) | (simp; omega)) | exact congrArg (fun n => Value.slice _ n _) (by first | omega | (simp; done) | (simp; omega))) (fC (by first | rfl | exact congrArg (Value.int _) (by first | omega | assumption | (symm; assumption) | (simp; done) | (simp; omega)) | exact congrArg (fun n => Value.slice _ n _) (by first | omega | (simp; done) | (simp; omega))) (fN _))) ?_   -- loop 1
    · exact ⟨by omega, fun j hj => by omega, H⟩
    · rintro i ρx w4 ⟨hi, hok, H⟩
      have hgl := gPart_len s i
      refine sq ?_
      refine sq ?_
      refine rg ?_
      refine mv (v := .int .i64 _) rfl rfl ?_
      refine lss rfl rfl rfl ?_
      refine nl ?_
      refine then_n ?_
      first | refine cd rfl (fun hc2 => ?_) (fun hc2 => ?_) | refine cn rfl (fun hc2 => ?_) (fun hc2 => ?_)   -- test 2
      · refine sk ?_
        refine then_n ?_
        refine sq ?_
        refine bk ?_
        refine sq ?_
        refine ctM (α := Bool) [17, 18, 19, 20, 21, 22, 23, 24, 25, 26, 27, 28, 29, 30] (fun u => [(30, .bool u)]) (fun u w' => u = dashB i ∧ SH w [] w' [⟨b2, .cells (ordL.map fun (k : Nat) => Value.int .i64 (k : Int)).toArray 81 (0, 0), true⟩, ⟨b1, .cells (Bs (gPart s (i))).toArray 60 (0, 0), true⟩]) ?_ ?_   -- cut
        · refine rg ?_
          refine mv (v := .int .i64 _) rfl rfl ?_
          refine eql rfl rfl rfl ?_
          refine mv (v := .bool _) rfl rfl ?_
          first | refine spd (t := 19) rfl (fun hg1 => ?_) (fun hg1 => ?_) | refine sp (t := 19) rfl (fun hg1 => ?_) (fun hg1 => ?_)   -- guard 1
          · refine gn rfl rfl ?_
            refine gn rfl rfl ?_
            refine pkT (v := .bool _) rfl rfl rfl ?_
            refine mv (v := .bool _) rfl rfl ?_
            refine gn rfl rfl ?_
            refine gn rfl rfl ?_
            refine pkT (v := .bool _) rfl rfl rfl ?_
            refine mv (v := .bool _) rfl rfl ?_
            refine gn rfl rfl ?_
            refine gn rfl rfl ?_
            refine pkT (v := .bool _) rfl rfl rfl ?_
            refine nl ?_
            refine then_n ?_
            exact ⟨true, ⟨dash_t (by omega), H⟩, (fC (by first | rfl | exact congrArg (Value.int _) (by first | omega | assumption | (symm; assumption) | (simp; done) | (simp; omega)) | exact congrArg (fun n => Value.slice _ n _) (by first | omega | (simp; done) | (simp; omega))) (fN _)), (by repeat (first | exact Agree.setL rfl Agree.mask | exact Agree.self _ _ | refine Agree.upd rfl ?_ | refine Agree.setL rfl ?_ | refine Agree.mask2 rfl ?_))⟩
          · refine gy rfl ?_
            refine mv (v := .int .i64 _) rfl rfl ?_
            refine gy rfl ?_
            refine eql rfl rfl rfl ?_
            refine pkF (v := .bool _) rfl rfl rfl ?_
            refine mv (v := .bool _) rfl rfl ?_
            first | refine spd (t := 23) rfl (fun hg2 => ?_) (fun hg2 => ?_) | refine sp (t := 23) rfl (fun hg2 => ?_) (fun hg2 => ?_)   -- guard 2
            · refine gn rfl rfl ?_
              refine gn rfl rfl ?_
              refine pkT (v := .bool _) rfl rfl rfl ?_
              refine mv (v := .bool _) rfl rfl ?_
              refine gn rfl rfl ?_
              refine gn rfl rfl ?_
              refine pkT (v := .bool _) rfl rfl rfl ?_
              refine nl ?_
              refine then_n ?_
              exact ⟨true, ⟨dash_t (by omega), H⟩, (fC (by first | rfl | exact congrArg (Value.int _) (by first | omega | assumption | (symm; assumption) | (simp; done) | (simp; omega)) | exact congrArg (fun n => Value.slice _ n _) (by first | omega | (simp; done) | (simp; omega))) (fN _)), (by repeat (first | exact Agree.setL rfl Agree.mask | exact Agree.self _ _ | refine Agree.upd rfl ?_ | refine Agree.setL rfl ?_ | refine Agree.mask2 rfl ?_))⟩
            · refine gy rfl ?_
              refine mv (v := .int .i64 _) rfl rfl ?_
              refine gy rfl ?_
              refine eql rfl rfl rfl ?_
              refine pkF (v := .bool _) rfl rfl rfl ?_
              refine mv (v := .bool _) rfl rfl ?_
              first | refine spd (t := 27) rfl (fun hg3 => ?_) (fun hg3 => ?_) | refine sp (t := 27) rfl (fun hg3 => ?_) (fun hg3 => ?_)   -- guard 3
              · refine gn rfl rfl ?_
                refine gn rfl rfl ?_
                refine pkT (v := .bool _) rfl rfl rfl ?_
                refine nl ?_
                refine then_n ?_
                exact ⟨true, ⟨dash_t (by omega), H⟩, (fC (by first | rfl | exact congrArg (Value.int _) (by first | omega | assumption | (symm; assumption) | (simp; done) | (simp; omega)) | exact congrArg (fun n => Value.slice _ n _) (by first | omega | (simp; done) | (simp; omega))) (fN _)), (by repeat (first | exact Agree.setL rfl Agree.mask | exact Agree.self _ _ | refine Agree.upd rfl ?_ | refine Agree.setL rfl ?_ | refine Agree.mask2 rfl ?_))⟩
              · refine gy rfl ?_
                refine mv (v := .int .i64 _) rfl rfl ?_
                refine gy rfl ?_
                refine eql rfl rfl rfl ?_
                refine pkF (v := .bool _) rfl rfl rfl ?_
                refine nl ?_
                refine then_n ?_
                exact ⟨_, ⟨dash_d hg1 hg2 hg3, H⟩, (fC (by first | rfl | exact congrArg (Value.int _) (by first | omega | assumption | (symm; assumption) | (simp; done) | (simp; omega)) | exact congrArg (fun n => Value.slice _ n _) (by first | omega | (simp; done) | (simp; omega))) (fN _)), (by repeat (first | exact Agree.setL rfl Agree.mask | exact Agree.self _ _ | refine Agree.upd rfl ?_ | refine Agree.setL rfl ?_ | refine Agree.mask2 rfl ?_))⟩
        · rintro u ρx w5 ⟨hu, H⟩
          first | refine cd rfl (fun hc3 => ?_) (fun hc3 => ?_) | refine cn rfl (fun hc3 => ?_) (fun hc3 => ?_)   -- test 3
          · have hd : dashB i = true := hu.symm.trans hc3
            have hcd := cntH_dash hd
            refine sq ?_
            refine sq ?_
            refine rg ?_
            refine mv (v := .string _) rfl rfl ?_
            refine mv (v := .int .i64 _) rfl rfl ?_
            refine ixS rfl rfl Try.underlying9 (by first | omega | (constructor <;> simp <;> omega)) rfl ?_; intro hu1
            refine neq rfl rfl rfl ?_
            refine nl ?_
            refine then_n ?_
            first | refine cd rfl (fun hc4 => ?_) (fun hc4 => ?_) | refine cn rfl (fun hc4 => ?_) (fun hc4 => ?_)   -- test 4
            · have hgk := gOk_not (by omega) (okAt_dash_f hd hc4)
              refine sq ?_
              refine rg ?_
              refine bu (out := ?o2) ze60 bo60 ?f2 rfl ?_
              case f2 =>
                exact FL.nil
              refine sa (cs' := Bs (List.replicate 16 0)) H rfl rfl ag60_16 rfl rfl (by show 0 + 16 ≤ 16; decide) (by omega) rfl ?_
              clear H; intro w95 H _
              refine asg (v := .bool _) rfl rfl ?_
              refine nl ?_
              refine then_n ?_
              refine rt ?_
              refine then_r ?_
              refine then_r ?_
              refine in_r ?_
              refine then_r ?_
              refine loop_r ?_
              refine in_r ?_
              refine then_r ?_
              refine finR_r ?_
              rw [hgk, gB_not hgk]
              exact ⟨[_, _], ⟨finC rfl (H.look (b := b1)) ag60_16, rfl, trivial⟩, rfl, H.fr⟩
            · have hoi := okAt_dash hd (by simpa using hc4)
              refine sk ?_
              refine then_n ?_
              refine ex ?_
              refine then_e ?_
              refine in_hit rfl ?_
              refine then_n ?_
              refine rg ?_
              refine mv (v := .int .i64 _) rfl rfl ?_
              refine add rfl rfl (by first | exact w_i64 (by omega) | exact w_i64 (rng_i64 _) | rfl) rfl ?_
              refine asg (v := .int .i64 _) rfl rfl ?_
              refine nl ?_
              refine loop_n ?_
              exact ⟨i + 1, (by (try dsimp only); omega), ⟨by omega, okAt_next hok hoi, by rw [gPart_dash hd]; exact H⟩, (fC (by first | rfl | exact congrArg (Value.int _) (by first | omega | assumption | (symm; assumption) | (simp; done) | (simp; omega)) | exact congrArg (fun n => Value.slice _ n _) (by first | omega | (simp; done) | (simp; omega))) (fC (by first | rfl | exact congrArg (Value.int _) (by first | omega | assumption | (symm; assumption) | (simp; done) | (simp; omega)) | exact congrArg (fun n => Value.slice _ n _) (by first | omega | (simp; done) | (simp; omega))) (fN _))), (by repeat (first | exact Agree.setL rfl Agree.mask | exact Agree.self _ _ | refine Agree.upd rfl ?_ | refine Agree.setL rfl ?_ | refine Agree.mask2 rfl ?_))⟩
          · have hd : dashB i = false := hu.symm.trans hc3
            have hol := ord_lt i (by omega) hd
            have hcn := cntH_hex i (by omega) hd
            refine sk ?_
            refine then_n ?_
            refine sq ?_
            refine rg ?_
            refine mv (v := .string _) rfl rfl ?_
            refine mv (v := .int .i64 _) rfl rfl ?_
            refine ixS rfl rfl Try.underlying9 (by first | omega | (constructor <;> simp <;> omega)) rfl ?_; intro hu3
            refine cl ca33 (c_hexOf _ _ (by omega)) rfl ?_
            rintro _ w6 ⟨rfl, F⟩
            replace H := H.keep F; clear F
            refine asgN (v' := .int .i64 (nib s i)) rfl rfl rfl ?_
            refine nl ?_
            refine then_n ?_
            refine sq ?_
            refine sq ?_
            refine rg ?_
            refine mv (v := .int .i64 _) rfl rfl ?_
            refine lss rfl rfl rfl ?_
            refine nl ?_
            refine then_n ?_
            first | refine cd rfl (fun hc5 => ?_) (fun hc5 => ?_) | refine cn rfl (fun hc5 => ?_) (fun hc5 => ?_)   -- test 5
            · have hgk := gOk_not (by omega) (okAt_hex_f hd hc5)
              refine sq ?_
              refine rg ?_
              refine bu (out := ?o4) ze60 bo60 ?f4 rfl ?_
              case f4 =>
                exact FL.nil
              refine sa (cs' := Bs (List.replicate 16 0)) H rfl rfl ag60_16 rfl rfl (by show 0 + 16 ≤ 16; decide) (by omega) rfl ?_
              clear H; intro w95 H _
              refine asg (v := .bool _) rfl rfl ?_
              refine nl ?_
              refine then_n ?_
              refine rt ?_
              refine then_r ?_
              refine in_r ?_
              refine then_r ?_
              refine loop_r ?_
              refine in_r ?_
              refine then_r ?_
              refine finR_r ?_
              rw [hgk, gB_not hgk]
              exact ⟨[_, _], ⟨finC rfl (H.look (b := b1)) ag60_16, rfl, trivial⟩, rfl, H.fr⟩
            · have hoi := okAt_hex hd hc5
              have hnr : 0 ≤ nib s i ∧ nib s i ≤ 15 := ⟨by omega, (hexN_rng _).2⟩
              refine sk ?_
              refine then_n ?_
              refine sq ?_
              refine dr (by kernel_rfl) ?_   -- region 14
              have H := H.drew
              refine hold (fun _ => True) [] ?_
              refine tk (i := 0) rfl (by kernel_rfl) rfl trivial (fun _ _ => r_mv (v := .int .i64 _) rfl) ?_
              refine tk (i := 1) rfl (by kernel_rfl) rfl trivial (fun _ _ => r_quo rfl rfl (by omega) (by omega) (by first | exact w_i64 (by omega) | exact w_i64 (rng_i64 _) | rfl)) ?_
              refine tk (i := 2) rfl (by kernel_rfl) rfl trivial (fun _ _ => r_iyN (cntH i / 2) rfl rfl Try.underlying81 sz3_1 (by omega) (by omega)) ?_
              refine tk (i := 4) rfl (by kernel_rfl) rfl trivial (fun _ _ => r_mv (v := .int .i64 _) rfl) ?_
              refine tk (i := 5) rfl (by kernel_rfl) rfl trivial (fun _ _ => r_quo rfl rfl (by omega) (by omega) (by first | exact w_i64 (by omega) | exact w_i64 (rng_i64 _) | rfl)) ?_
              refine tk (i := 6) rfl (by kernel_rfl) rfl trivial (fun _ _ => r_iyN (cntH i / 2) rfl rfl Try.underlying81 sz3_1 (by omega) (by omega)) ?_
              refine tk (i := 11) rfl (by kernel_rfl) rfl trivial (fun _ _ => r_mv (v := .int .i64 _) rfl) ?_
              refine tk (i := 12) rfl (by kernel_rfl) rfl trivial (fun _ _ => r_cvi rfl rfl Try.underlying5 (by first | exact w_u8 (by omega) | exact w_u8 (rng_u8 _) | exact m_u8 _)) ?_
              refine unfree ?_
              refine holdH H [15] ?_
              refine tk (i := 3) rfl (by kernel_rfl) rfl H (fun w' H => r_ld (v := .int .i64 ((ordL.getD (cntH i / 2) 0 : Nat) : Int)) H rfl sc3 (ord_get (by omega))) ?_
              refine tk (i := 7) rfl (by kernel_rfl) rfl H (fun w' H => r_ld (v := .int .i64 ((ordL.getD (cntH i / 2) 0 : Nat) : Int)) H rfl sc3 (ord_get (by omega))) ?_
              refine tk (i := 8) rfl (by kernel_rfl) rfl H (fun w' H => r_iyN (ordL.getD (cntH i / 2) 0) rfl rfl Try.underlying60 sz5_1 (by omega) (by omega)) ?_
              first | refine tk (i := 9) rfl (by kernel_rfl) rfl H (fun w' H => r_ldb H rfl sc5 (by omega)) ?_ | refine tk (i := 9) rfl (by kernel_rfl) rfl H (fun w' H => r_ld H rfl sc5 rfl) ?_ | refine tk (i := 9) rfl (by kernel_rfl) rfl H (fun w' H => r_lc rfl (by first | assumption | exact H.fr.cell (by assumption) (by simp)) sc5) ?_
              refine tk (i := 10) rfl (by kernel_rfl) rfl H (fun w' H => r_shlK (s := 4) (p := 16) rfl rfl (by decide) (by decide) (by first | exact w_u8 (by omega) | exact w_u8 (rng_u8 _) | exact m_u8 _)) ?_
              refine tk (i := 13) rfl (by kernel_rfl) rfl H (fun w' H => r_bor (c := (((gPart s i).getD (ordL.getD (cntH i / 2) 0) 0).toNat : Int) * 16 % 256 + nib s i) rfl rfl (or_nib ⟨by omega, u8_lt _⟩ hnr)) ?_
              refine tk (i := 14) rfl (by kernel_rfl) rfl H (fun w' H => r_iyN (ordL.getD (cntH i / 2) 0) rfl rfl Try.underlying60 sz5_1 (by omega) (by omega)) ?_
              refine fb (i := 15) (by kernel_rfl) rfl rfl rfl ?_
              refine stb H rfl rfl sc5 (by have := u8_lt ((gPart s i).getD (ordL.getD (cntH i / 2) 0) 0); omega) (by rw [gPart_len]; exact hol) (by omega) ?_
              clear H; intro w93 H _
              refine nl ?_
              refine then_n ?_
              refine dn (by kernel_rfl) ?_
              refine then_n ?_
              refine rg ?_
              refine mv (v := .int .i64 _) rfl rfl ?_
              refine add rfl rfl (by first | exact w_i64 (by omega) | exact w_i64 (rng_i64 _) | rfl) rfl ?_
              refine asg (v := .int .i64 _) rfl rfl ?_
              refine nl ?_
              refine in_n ?_
              refine then_n ?_
              refine rg ?_
              refine mv (v := .int .i64 _) rfl rfl ?_
              refine add rfl rfl (by first | exact w_i64 (by omega) | exact w_i64 (rng_i64 _) | rfl) rfl ?_
              refine asg (v := .int .i64 _) rfl rfl ?_
              refine nl ?_
              refine loop_n ?_
              exact ⟨i + 1, (by (try dsimp only); omega), ⟨by omega, okAt_next hok hoi, sh_cells1 H (congrArg Bs (gPart_step (by omega) hd (okAt_next hok hoi)))⟩, (fC (by first | rfl | exact congrArg (Value.int _) (by first | omega | assumption | (symm; assumption) | (simp; done) | (simp; omega)) | exact congrArg (fun n => Value.slice _ n _) (by first | omega | (simp; done) | (simp; omega))) (fC (by first | rfl | exact congrArg (Value.int _) (by first | omega | assumption | (symm; assumption) | (simp; done) | (simp; omega)) | exact congrArg (fun n => Value.slice _ n _) (by first | omega | (simp; done) | (simp; omega))) (fN _))), (by repeat (first | exact Agree.setL rfl Agree.mask | exact Agree.self _ _ | refine Agree.upd rfl ?_ | refine Agree.setL rfl ?_ | refine Agree.mask2 rfl ?_))⟩
      · refine ex ?_
        refine then_e ?_
        refine loop_e ?_
        refine in_hit rfl ?_
        refine then_n ?_
        refine sq ?_
        refine rg ?_
        refine la (vs := Bs (gPart s i)) H rfl ag60_16 rfl rfl rfl ?_
        refine sa (cs' := Bs (gPart s i)) H rfl rfl ag60_16 rfl rfl (by show 0 + 16 ≤ 16; decide) (by omega) rfl ?_
        clear H; intro w94 H _
        refine asg (v := .bool _) rfl rfl ?_
        refine nl ?_
        refine then_n ?_
        refine rt ?_
        refine finR_r ?_
        obtain rfl : i = 36 := by omega
        have hgk := gOk_of hsl hok
        rw [hgk, gB_ok hgk]
        exact ⟨[_, _], ⟨finC rfl (H.look (b := b1)) ag60_16, rfl, trivial⟩, rfl, H.fr⟩

set_option maxRecDepth 100000 in
set_option maxHeartbeats 1000000 in
theorem c_sameGuid (w : World) (a b : List UInt8) : Calls Try.prog 29 #[.string (str a), .string (str b)] w (Ret fun v w' => v = .bool (sameG a b) ∧ Fr [] w w') := by
  refine enter (fun ρ => ρ 4) Try.func29 rfl rfl rfl (res1 rfl) ?_
  have H := SH.nil w
  refine sq ?_
  refine rg ?_
  refine asg (v := .bool _) rfl rfl ?_
  refine nl ?_
  refine then_n ?_
  refine sq ?_
  refine rg ?_
  refine mv (v := .string _) rfl rfl ?_
  refine cl ca23 (c_guidBytes _ _) rfl ?_
  rintro _ w1 ⟨rfl, F⟩
  replace H := H.keep F; clear F
  refine mv (v := .tuple _) rfl rfl ?_
  refine xt rfl rfl rfl ?_
  refine xt rfl rfl rfl ?_
  refine al H ze60 rfl ?_
  clear H; intro b1 w2 hb1 H _
  refine sa (cs' := Bs (gB a)) H rfl rfl ag60_16 (by rw [Bs_length, gB_len]) (List.all_eq_true.2 Bs_one) (by decide) (by omega) (List.append_nil _) ?_
  clear H; intro w91 H _
  refine asg (v := .bool _) rfl rfl ?_
  refine nl ?_
  refine then_n ?_
  refine sq ?_
  refine rg ?_
  refine mv (v := .string _) rfl rfl ?_
  refine cl ca23 (c_guidBytes _ _) rfl ?_
  rintro _ w3 ⟨rfl, F⟩
  replace H := H.keep F; clear F
  refine mv (v := .tuple _) rfl rfl ?_
  refine xt rfl rfl rfl ?_
  refine xt rfl rfl rfl ?_
  refine al H ze60 rfl ?_
  clear H; intro b2 w4 hb2 H _
  refine sa (cs' := Bs (gB b)) H rfl rfl ag60_16 (by rw [Bs_length, gB_len]) (List.all_eq_true.2 Bs_one) (by decide) (by omega) (List.append_nil _) ?_
  clear H; intro w92 H _
  refine asg (v := .bool _) rfl rfl ?_
  refine nl ?_
  refine then_n ?_
  refine sq ?_
  refine rg ?_
  refine mv (v := .bool _) rfl rfl ?_
  refine mv (v := .bool _) rfl rfl ?_
  first | refine spd (t := 20) rfl (fun hg1 => ?_) (fun hg1 => ?_) | refine sp (t := 20) rfl (fun hg1 => ?_) (fun hg1 => ?_)   -- guard 1
  · refine gy rfl ?_
    refine mv (v := .bool _) rfl rfl ?_
    refine pkT (v := .bool _) rfl rfl rfl ?_
    refine mv (v := .bool _) rfl rfl ?_
    first | refine spd (t := 23) rfl (fun hg2 => ?_) (fun hg2 => ?_) | refine sp (t := 23) rfl (fun hg2 => ?_) (fun hg2 => ?_)   -- guard 2
    · refine gy rfl ?_
      refine la (vs := Bs (gB a)) H rfl ag60_16 (by rw [Bs_length, gB_len]) (by rw [List.drop_zero, List.take_of_length_le (by rw [Bs_length, gB_len]; decide)]) rfl ?_
      refine gy rfl ?_
      refine la (vs := Bs (gB b)) H rfl ag60_16 (by rw [Bs_length, gB_len]) (by rw [List.drop_zero, List.take_of_length_le (by rw [Bs_length, gB_len]; decide)]) rfl ?_
      refine gy rfl ?_
      refine eqlBs (xs := gB a) (ys := gB b) rfl rfl eg60 Try.underlying60 Try.underlying5 sz5_1 sc5 (gB_len _) (gB_len _) rfl ?_
      refine pkT (v := .bool _) rfl rfl rfl ?_
      refine asg (v := .bool _) rfl rfl ?_
      refine nl ?_
      refine then_n ?_
      refine rt ?_
      refine fin_r ?_
      exact ⟨congrArg Value.bool (by unfold sameG; rw [hg1, hg2]; rfl), H.fr⟩
    · refine gn rfl rfl ?_
      refine gn rfl rfl ?_
      refine gn rfl rfl ?_
      refine pkF (v := .bool _) rfl rfl rfl ?_
      refine asg (v := .bool _) rfl rfl ?_
      refine nl ?_
      refine then_n ?_
      refine rt ?_
      refine fin_r ?_
      exact ⟨congrArg Value.bool (by unfold sameG; rw [hg1, hg2]; rfl), H.fr⟩
  · refine gn rfl rfl ?_
    refine pkF (v := .bool _) rfl rfl rfl ?_
    refine mv (v := .bool _) rfl rfl ?_
    refine gn rfl rfl ?_
    refine gn rfl rfl ?_
    refine gn rfl rfl ?_
    refine pkF (v := .bool _) rfl rfl rfl ?_
    refine asg (v := .bool _) rfl rfl ?_
    refine nl ?_
    refine then_n ?_
    refine rt ?_
    refine fin_r ?_
    exact ⟨congrArg Value.bool (by unfold sameG; rw [hg1]; rfl), H.fr⟩

end Go.Proofs.Ythcaejaaalkglaa.X
/- The letters of a text, its units of sixteen bits, and back. -/
namespace Go.Proofs.Ythcaejaaalkglaa.X
open Go
set_option linter.unusedVariables false
set_option linter.unusedSimpArgs false
theorem get_str (bs : List UInt8) (i : Nat) : (str bs).get! i = bs.getD i 0 := by
  simp [str, ByteArray.get!, getElem!_def, List.getD_eq_getElem?_getD]
  cases h : bs[i]? <;> simp
  rfl
theorem decode_drop (bs : List UInt8) (i : Nat) : Utf8.decode (str bs) i = Utf8.decode (str (bs.drop i)) 0 := by
  have hg : ∀ k, (str bs).get! (i + k) = (str (bs.drop i)).get! (0 + k) := fun k => by
    rw [get_str, get_str]; simp [List.getD_eq_getElem?_getD, Nat.add_comm]
  have hs : ∀ k, decide (i + k < (str bs).size) = decide (0 + k < (str (bs.drop i)).size) := fun k => by
    rw [size_str, size_str]; simp; omega
  unfold Utf8.decode
  simp only [hg, hs]
/-- The first letter of some bytes, and how many of them it is. -/
def rune1 (bs : List UInt8) : Nat × Nat := Utf8.decode (str bs) 0
theorem vl {b : Bool} {a c : Nat × Nat} {p : Nat × Nat → Prop} (h1 : b = true → p a) (h2 : p c) : p (if b = true then a else c) := by
  split
  · rename_i h; exact h1 h
  · exact h2
def rOk (l : List UInt8) (p : Nat × Nat) : Prop :=
  1 ≤ p.2 ∧ p.2 ≤ l.length ∧ p.2 ≤ 4 ∧ p.1 ≤ 1114111 ∧ (p.1 < 55296 ∨ 57343 < p.1) ∧ (65536 ≤ p.1 → p.2 = 4) ∧ (p.1 ≠ 65533 → Utf8.encode (p.1 : Int) = str (l.take p.2))
theorem enc_of {c : Nat} (hv : c < 55296 ∨ (57343 < c ∧ c ≤ 1114111)) : Utf8.encode (c : Int) =
    (if c < 0x80 then ⟨#[UInt8.ofNat c]⟩
     else if c < 0x800 then ⟨#[UInt8.ofNat (0xC0 + c / 64), UInt8.ofNat (0x80 + c % 64)]⟩
     else if c < 0x10000 then ⟨#[UInt8.ofNat (0xE0 + c / 4096), UInt8.ofNat (0x80 + c / 64 % 64), UInt8.ofNat (0x80 + c % 64)]⟩
     else ⟨#[UInt8.ofNat (0xF0 + c / 262144), UInt8.ofNat (0x80 + c / 4096 % 64), UInt8.ofNat (0x80 + c / 64 % 64), UInt8.ofNat (0x80 + c % 64)]⟩) := by
  unfold Utf8.encode
  have h : Utf8.valid (c : Int) = true := by unfold Utf8.valid; simp; omega
  rw [h]
  simp only [if_true, Int.toNat_natCast]
theorem u8_eq {n : Nat} {b : UInt8} (h : n = b.toNat) : UInt8.ofNat n = b := by subst h; simp
theorem rOk_err {l : List UInt8} (h : l ≠ []) : rOk l (Utf8.runeError, 1) := by
  have : 0 < l.length := List.length_pos_iff.2 h
  refine ⟨by decide, this, by decide, by decide, by decide, ?_, ?_⟩
  · intro h; exact absurd h (by decide)
  · intro h; exact absurd rfl h
theorem rune1_ok {l : List UInt8} (h : l ≠ []) : rOk l (rune1 l) := by
  obtain ⟨b0, l0, rfl⟩ := List.exists_cons_of_ne_nil h
  have herr := rOk_err h
  have hb0 := b0.toNat_lt
  unfold rune1 Utf8.decode
  simp only [get_str, size_str, Nat.zero_add]
  have g0 : (b0 :: l0).getD 0 0 = b0 := rfl
  rw [g0]
  by_cases h1 : b0.toNat < 0x80
  · rw [if_pos h1]
    refine ⟨by simp, by simp, by simp, by simp; omega, by simp; omega, by simp; omega, fun _ => ?_⟩
    rw [enc_of (by simp; omega), if_pos h1]
    simp [str]
  rw [if_neg h1]
  by_cases h2 : (b0.toNat / 32 == 6 && (decide (1 < (b0 :: l0).length) && ((b0 :: l0).getD 1 0).toNat / 64 == 2)) = true
  · rw [if_pos h2]
    simp only [Bool.and_eq_true, beq_iff_eq, decide_eq_true_eq] at h2
    obtain ⟨h2a, h2b, h2c⟩ := h2
    obtain ⟨b1, l1, rfl⟩ : ∃ b l, l0 = b :: l := List.exists_cons_of_ne_nil (by rintro rfl; simp at h2b)
    have g1 : (b0 :: b1 :: l1).getD 1 0 = b1 := rfl
    rw [g1] at h2c ⊢
    have hb1 := b1.toNat_lt
    by_cases hc : (b0.toNat % 32) * 64 + b1.toNat % 64 ≥ 0x80
    · rw [if_pos hc]
      refine ⟨by simp, by simp, by simp, by simp; omega, by simp; omega, by simp; omega, fun _ => ?_⟩
      rw [enc_of (by simp; omega), if_neg (by simp only; omega), if_pos (by simp only; omega)]
      simp only [str, List.take_succ_cons, List.take_zero]
      rw [u8_eq (b := b0) (by omega), u8_eq (b := b1) (by omega)]
    · rw [if_neg hc]; exact herr
  rw [if_neg h2]
  by_cases h3 : (b0.toNat / 16 == 14 && (decide (1 < (b0 :: l0).length) && ((b0 :: l0).getD 1 0).toNat / 64 == 2) && (decide (2 < (b0 :: l0).length) && ((b0 :: l0).getD 2 0).toNat / 64 == 2)) = true
  · rw [if_pos h3]
    simp only [Bool.and_eq_true, beq_iff_eq, decide_eq_true_eq] at h3
    obtain ⟨⟨h3a, h3b, h3c⟩, h3d, h3e⟩ := h3
    obtain ⟨b1, l1, rfl⟩ : ∃ b l, l0 = b :: l := List.exists_cons_of_ne_nil (by rintro rfl; simp at h3b)
    obtain ⟨b2, l2, rfl⟩ : ∃ b l, l1 = b :: l := List.exists_cons_of_ne_nil (by rintro rfl; simp at h3d)
    have g1 : (b0 :: b1 :: b2 :: l2).getD 1 0 = b1 := rfl
    have g2 : (b0 :: b1 :: b2 :: l2).getD 2 0 = b2 := rfl
    rw [g1] at h3c; rw [g2] at h3e; rw [g1, g2]
    have hb1 := b1.toNat_lt; have hb2 := b2.toNat_lt
    by_cases hc : ((b0.toNat % 16) * 4096 + (b1.toNat % 64) * 64 + b2.toNat % 64 ≥ 0x800 && Utf8.valid (((b0.toNat % 16) * 4096 + (b1.toNat % 64) * 64 + b2.toNat % 64 : Nat) : Int)) = true
    · rw [if_pos (by simpa using hc)]
      simp only [Bool.and_eq_true, decide_eq_true_eq] at hc
      obtain ⟨hc1, hc2⟩ := hc
      have hv := hc2
      unfold Utf8.valid at hv
      simp only [Bool.or_eq_true, Bool.and_eq_true, decide_eq_true_eq] at hv
      refine ⟨by simp, by simp, by simp, by simp only; omega, by simp only; omega, by simp only; omega, fun _ => ?_⟩
      rw [enc_of (by simp only; omega), if_neg (by simp only; omega), if_neg (by simp only; omega), if_pos (by simp only; omega)]
      simp only [str, List.take_succ_cons, List.take_zero]
      rw [u8_eq (b := b0) (by omega), u8_eq (b := b1) (by omega), u8_eq (b := b2) (by omega)]
    · rw [if_neg (by simpa using hc)]; exact herr
  rw [if_neg h3]
  by_cases h4 : (b0.toNat / 8 == 30 && (decide (1 < (b0 :: l0).length) && ((b0 :: l0).getD 1 0).toNat / 64 == 2) && (decide (2 < (b0 :: l0).length) && ((b0 :: l0).getD 2 0).toNat / 64 == 2) && (decide (3 < (b0 :: l0).length) && ((b0 :: l0).getD 3 0).toNat / 64 == 2)) = true
  · rw [if_pos h4]
    simp only [Bool.and_eq_true, beq_iff_eq, decide_eq_true_eq] at h4
    obtain ⟨⟨⟨h3a, h3b, h3c⟩, h3d, h3e⟩, h3f, h3g⟩ := h4
    obtain ⟨b1, l1, rfl⟩ : ∃ b l, l0 = b :: l := List.exists_cons_of_ne_nil (by rintro rfl; simp at h3b)
    obtain ⟨b2, l2, rfl⟩ : ∃ b l, l1 = b :: l := List.exists_cons_of_ne_nil (by rintro rfl; simp at h3d)
    obtain ⟨b3, l3, rfl⟩ : ∃ b l, l2 = b :: l := List.exists_cons_of_ne_nil (by rintro rfl; simp at h3f)
    have g1 : (b0 :: b1 :: b2 :: b3 :: l3).getD 1 0 = b1 := rfl
    have g2 : (b0 :: b1 :: b2 :: b3 :: l3).getD 2 0 = b2 := rfl
    have g3 : (b0 :: b1 :: b2 :: b3 :: l3).getD 3 0 = b3 := rfl
    rw [g1] at h3c; rw [g2] at h3e; rw [g3] at h3g; rw [g1, g2, g3]
    have hb1 := b1.toNat_lt; have hb2 := b2.toNat_lt; have hb3 := b3.toNat_lt
    by_cases hc : ((b0.toNat % 8) * 262144 + (b1.toNat % 64) * 4096 + (b2.toNat % 64) * 64 + b3.toNat % 64 ≥ 0x10000 && Utf8.valid (((b0.toNat % 8) * 262144 + (b1.toNat % 64) * 4096 + (b2.toNat % 64) * 64 + b3.toNat % 64 : Nat) : Int)) = true
    · rw [if_pos (by simpa using hc)]
      simp only [Bool.and_eq_true, decide_eq_true_eq] at hc
      obtain ⟨hc1, hc2⟩ := hc
      have hv := hc2
      unfold Utf8.valid at hv
      simp only [Bool.or_eq_true, Bool.and_eq_true, decide_eq_true_eq] at hv
      refine ⟨by simp, by simp, by simp, by simp only; omega, by simp only; omega, fun _ => rfl, fun _ => ?_⟩
      rw [enc_of (by simp only; omega), if_neg (by simp only; omega), if_neg (by simp only; omega), if_neg (by simp only; omega)]
      simp only [str, List.take_succ_cons, List.take_zero]
      rw [u8_eq (b := b0) (by omega), u8_eq (b := b1) (by omega), u8_eq (b := b2) (by omega), u8_eq (b := b3) (by omega)]
    · rw [if_neg (by simpa using hc)]; exact herr
  rw [if_neg h4]; exact herr
/-! ### all letters of a text -/
def runesF : Nat → List UInt8 → List Nat
  | 0, _ => []
  | f + 1, l => if l = [] then [] else (rune1 l).1 :: runesF f (l.drop (rune1 l).2)
def runes (l : List UInt8) : List Nat := runesF l.length l
theorem runesF_more : ∀ (f g : Nat) (l : List UInt8), l.length ≤ f → l.length ≤ g → runesF f l = runesF g l
  | 0, g, l, hf, hg => by
    have : l = [] := List.eq_nil_of_length_eq_zero (by omega)
    subst this
    cases g <;> simp [runesF]
  | f + 1, 0, l, hf, hg => by
    have : l = [] := List.eq_nil_of_length_eq_zero (by omega)
    subst this
    simp [runesF]
  | f + 1, g + 1, l, hf, hg => by
    simp only [runesF]
    split
    · rfl
    · rename_i h
      have h1 := rune1_ok h
      have h2 : (l.drop (rune1 l).2).length < l.length := by rw [List.length_drop]; have := h1.1; have := h1.2.1; omega
      rw [runesF_more f g (l.drop (rune1 l).2) (by omega) (by omega)]
theorem runes_nil : runes [] = [] := rfl
theorem runes_cons {l : List UInt8} (h : l ≠ []) : runes l = (rune1 l).1 :: runes (l.drop (rune1 l).2) := by
  have h1 := rune1_ok h
  have h2 : (l.drop (rune1 l).2).length < l.length := by rw [List.length_drop]; have := h1.1; have := h1.2.1; omega
  unfold runes
  cases hl : l.length with
  | zero => omega
  | succ f =>
    rw [runesF, if_neg h, runesF_more f (l.drop (rune1 l).2).length _ (by omega) (Nat.le_refl _)]
theorem runes_at {bs : List UInt8} {pos : Nat} (h : pos < bs.length) : runes (bs.drop pos) = (rune1 (bs.drop pos)).1 :: runes (bs.drop (pos + (rune1 (bs.drop pos)).2)) := by
  rw [runes_cons (by intro e; have := congrArg List.length e; simp at this; omega), List.drop_drop]
theorem rune_at {bs : List UInt8} {pos : Nat} (h : pos < bs.length) : rOk (bs.drop pos) (rune1 (bs.drop pos)) :=
  rune1_ok (by intro e; have := congrArg List.length e; simp at this; omega)
/-- The units of a letter; of a text. -/
def u16 (c : Nat) : List Int := if 65536 ≤ c then [55296 + ((c - 65536) / 1024 : Nat), 56320 + ((c - 65536) % 1024 : Nat)] else [(c : Int)]
def utf16 (bs : List UInt8) : List Int := (runes bs).flatMap u16
theorem utf16_nil : utf16 [] = [] := rfl
theorem utf16_at {bs : List UInt8} {pos : Nat} (h : pos < bs.length) : utf16 (bs.drop pos) = u16 (rune1 (bs.drop pos)).1 ++ utf16 (bs.drop (pos + (rune1 (bs.drop pos)).2)) := by
  unfold utf16; rw [runes_at h]; simp
theorem u16_len (c : Nat) : (u16 c).length ≤ 2 := by unfold u16; split <;> simp
theorem utf16_len : ∀ (n : Nat) (bs : List UInt8), bs.length ≤ n → (utf16 bs).length ≤ bs.length
  | 0, bs, h => by
    have : bs = [] := List.eq_nil_of_length_eq_zero (by omega)
    subst this; simp [utf16_nil]
  | n + 1, bs, h => by
    by_cases hb : bs = []
    · subst hb; simp [utf16_nil]
    · have h1 := rune1_ok hb
      have hl : 0 < bs.length := List.length_pos_iff.2 hb
      have e := utf16_at (bs := bs) (pos := 0) hl
      rw [List.drop_zero, Nat.zero_add] at e
      rw [e, List.length_append]
      obtain ⟨g1, g2, g3, g4, g5, g6, _⟩ := h1
      have ih := utf16_len n (bs.drop (rune1 bs).2) (by rw [List.length_drop]; omega)
      rw [List.length_drop] at ih
      have hu : (u16 (rune1 bs).1).length ≤ (rune1 bs).2 := by
        unfold u16; split
        · rename_i h; have := g6 h; simp; omega
        · simp; omega
      omega
theorem and1023 {x : Int} (h : 0 ≤ x ∧ x ≤ 2147483647) : bits .and .i32 x 1023 = x % 1024 := by
  obtain ⟨k, rfl⟩ := Int.eq_ofNat_of_zero_le h.1
  have e : bits .and .i32 (k : Int) 1023 = IntKind.i32.wrap ((BitVec.ofInt 32 (k : Int) &&& BitVec.ofInt 32 1023).toInt) ∨ bits .and .i32 (k : Int) 1023 = IntKind.i32.wrap ((BitVec.ofInt 32 (k : Int) &&& BitVec.ofInt 32 1023).toNat : Int) := by
    first | exact .inl rfl | exact .inr rfl
  have hx' : (BitVec.ofInt 32 (k : Int)).toNat = k := by rw [BitVec.toNat_ofInt]; omega
  have hn : (BitVec.ofInt 32 (k : Int) &&& BitVec.ofInt 32 1023).toNat = k % 1024 := by
    rw [BitVec.toNat_and, hx', show (BitVec.ofInt 32 1023).toNat = 2 ^ 10 - 1 from rfl, Nat.and_two_pow_sub_one_eq_mod]
  rcases e with e | e
  · rw [e, BitVec.toInt_eq_toNat_of_lt (by rw [hn]; omega), hn, w_i32 (by omega)]; omega
  · rw [e, hn, w_i32 (by omega)]; omega
/-! ### ranging over a text -/
def nextL (bs : List UInt8) (pos : Nat) : List Value := if pos < bs.length then [.bool true, .int .i64 (pos : Int), .int .i32 ((rune1 (bs.drop pos)).1 : Int)] else [.bool false]
def nextP (bs : List UInt8) (pos : Nat) : Nat := if pos < bs.length then pos + (rune1 (bs.drop pos)).2 else pos
theorem next0 (bs : List UInt8) (pos : Nat) : (nextL bs pos)[0]? = some (.bool (decide (pos < bs.length))) := by
  unfold nextL; split <;> simp_all
theorem next1 {bs : List UInt8} {pos : Nat} (h : pos < bs.length) : (nextL bs pos)[1]? = some (.int .i64 (pos : Int)) := by
  unfold nextL; rw [if_pos h]; rfl
theorem next2 {bs : List UInt8} {pos : Nat} (h : pos < bs.length) : (nextL bs pos)[2]? = some (.int .i32 ((rune1 (bs.drop pos)).1 : Int)) := by
  unfold nextL; rw [if_pos h]; rfl
theorem nextP_of {bs : List UInt8} {pos : Nat} (h : pos < bs.length) : nextP bs pos = pos + (rune1 (bs.drop pos)).2 := by unfold nextP; rw [if_pos h]
theorem nextP_end {bs : List UInt8} {pos : Nat} (h : ¬ pos < bs.length) : nextP bs pos = pos := by unfold nextP; rw [if_neg h]
section steps
variable {P : Program} {n : Nat} {ops : Array Oper} {Q : Post} {rest : List Oper} {ρ : Env} {w : World} {ty : TypeId} {pos : String} {af : Array Edge} {d : Nat}
variable {w0 : World} {S : List Nat} {L L' : List Ent}
theorem rngS {t : TypeId} {x : Operand} {bs : List UInt8} (H : SH w0 S w L) (hx : ev ρ x = .string (str bs)) (hu : P.underlying t = some .string) (hn : Nat.blt d n = true)
    (kk : ∀ b w', w.heap.size ≤ b → SH w0 S w' (⟨b, .stringIter (str bs) 0, true⟩ :: L) → Fr [] w w' → wl P n ops Q rest (upd ρ d (.pointer (some ⟨b, 0, none⟩))) w') : wl P n ops Q (⟨some d, .range t x, ty, pos, af, none⟩ :: rest) ρ w := by
  refine val rfl rfl hn (w' := w.alloc (.stringIter (str bs) 0)) (v := .pointer (some ⟨w.heap.size, 0, none⟩)) ?_ (kk _ _ (Nat.le_refl _) (H.new (Fr.alloc _ _) (Nat.le_refl _) (heap_alloc_new _ _)) (Fr.alloc _ _))
  simp [execOp, hx, Instr.range, run_underlying hu]
theorem nxt {x : Operand} {b i : Nat} {bs : List UInt8} (H : SH w0 S w L) (hx : ev ρ x = .pointer (some ⟨b, 0, none⟩)) [lk : Look L b (.stringIter (str bs) i)] [tn : Turn L b (.stringIter (str bs) (nextP bs i)) L'] (hn : Nat.blt d n = true)
    (kk : ∀ w', SH w0 S w' L' → Fr [b] w w' → wl P n ops Q rest (upd ρ d (.tuple (nextL bs i).toArray)) w') : wl P n ops Q (⟨some d, .next x true, ty, pos, af, none⟩ :: rest) ρ w := by
  have hL := H.look (b := b) (o := .stringIter (str bs) i)
  have hlt := lt_of_at hL
  by_cases hi : i < bs.length
  · have hfr : Fr [b] w { w with heap := w.heap.setIfInBounds b (.stringIter (str bs) (nextP bs i)) } := ⟨rfl, rfl, rfl, by simp, fun k _ hk => by
      have : b ≠ k := fun e => hk (by simp [e])
      simp [this]⟩
    refine val rfl rfl hn (w' := { w with heap := w.heap.setIfInBounds b (.stringIter (str bs) (nextP bs i)) }) (v := .tuple (nextL bs i).toArray) ?_ (kk _ (H.put (b := b) (o' := .stringIter (str bs) (nextP bs i)) hfr (by simp [hlt])) hfr)
    unfold nextL
    rw [if_pos hi, nextP_of hi]
    have hd := decode_drop bs i
    simp [execOp, hx, Instr.next, getObj, setObj, Sem.run, hL, hi, hd, rune1, goInt, Result.andThen]
  · have e : nextP bs i = i := nextP_end hi
    refine val rfl rfl hn (w' := w) (v := .tuple (nextL bs i).toArray) ?_ (kk w (H.put (b := b) (o' := .stringIter (str bs) (nextP bs i)) (Fr.refl _ _) (by rw [e]; exact hL)) (Fr.refl _ _))
    unfold nextL
    rw [if_neg hi]
    simp [execOp, hx, Instr.next, getObj, Sem.run, hL, hi, Result.andThen]
end steps
end Go.Proofs.Ythcaejaaalkglaa.X
/- Walks of functions, printed by a program of this claim. -/
namespace Go.Proofs.Ythcaejaaalkglaa.X
set_option linter.unusedVariables false
set_option linter.unusedSimpArgs false
open Go Go.RowKit

namespace P3
theorem ri22 : rowInfo Try.prog 22 = some ([.int .u16 0], 2) := by kernel_rfl
theorem sz22_1 : sizeB Try.prog 22 1 = true := by kernel_rfl
theorem ze22 : zeroL Try.prog 22 = some [.int .u16 0] := by kernel_rfl

end P3
open P3

set_option maxRecDepth 100000 in
set_option maxHeartbeats 1000000 in
theorem c_utf16 (w : World) (s : List UInt8) (hs : s.length ≤ 2147483647) : Calls Try.prog 31 #[.string (str s)] w (Ret fun v w' => ∃ D cap, v = .slice D (utf16 s).length cap ∧ OR 22 1 w [] w' [] D (utf16 s).length cap ((utf16 s).map (Value.int .u16))) := by
  refine enter (fun ρ => ρ 2) Try.func31 rfl rfl rfl (res1 rfl) ?_
  have H := SH.nil w
  refine sq ?_
  refine rg ?_
  refine asg (v := .slice _ _ _) rfl rfl ?_
  refine nl ?_
  refine then_n ?_
  refine sq ?_
  refine rg ?_
  refine asg (v := .slice _ _ _) rfl rfl ?_
  refine nl ?_
  refine then_n ?_
  refine sq ?_
  refine sq ?_
  refine rg ?_
  refine mv (v := .string _) rfl rfl ?_
  refine rngS H rfl Try.underlying9 rfl ?_
  clear H; intro b1 w1 hb1 H _
  refine nl ?_
  refine then_n ?_
  refine bk ?_
  refine lpM (α := Nat × Option Addr × Nat × List Int) [3, 5, 8, 9, 10, 11, 12, 13, 14, 15, 16, 17, 18, 19, 20, 21, 22, 23, 24, 25, 26, 27, 28, 29, 30] (fun (p, D, cap, us) => [(3, .slice D us.length cap)]) (fun (p, D, cap, us) w' => p ≤ s.length ∧ us.length ≤ p ∧ utf16 s = us ++ utf16 (s.drop p) ∧ OR 22 1 w [] w' [⟨b1, .stringIter (str s) p, true⟩] D us.length cap (us.map (Value.int .u16))) (fun (p, D, cap, us) => s.length - p) (0, none, 0, []) ?_ (fC (by first | rfl | exact congrArg (Value.int _) (by first | omega | assumption | (symm; assumption) | (simp; done) | (simp; omega)) | exact congrArg (fun n => Value.slice _ n _) (by first | omega | (simp; done) | (simp; omega))) (fN _)) ?_   -- loop 1
  · exact ⟨by omega, by simp, rfl, OR.nil H⟩
  · rintro ⟨p, D, cap, us⟩ ρx w2 ⟨hp, hul, hus, O⟩
    have H := O.sh
    refine sq ?_
    refine rg ?_
    refine nxt H rfl rfl ?_
    intro w3 H1 F; replace O := O.put F H1.look; clear H H1 F; have H := O.sh
    refine xt rfl (next0 _ _) rfl ?_
    refine nl ?_
    refine then_n ?_
    refine sq ?_
    first | refine cd rfl (fun hc1 => ?_) (fun hc1 => ?_) | refine cn rfl (fun hc1 => ?_) (fun hc1 => ?_)   -- test 1
    · have hlt : p < s.length := by assumption
      rw [nextP_of hlt] at O H
      obtain ⟨g1, g2, g3, g4, g5, g6, _⟩ := rune_at hlt
      rw [List.length_drop] at g2
      refine sk ?_
      refine then_n ?_
      refine bk ?_
      refine sq ?_
      refine rg ?_
      refine xt rfl (next2 (by omega)) rfl ?_
      refine asg (v := .int .i32 _) rfl rfl ?_
      refine nl ?_
      refine then_n ?_
      refine sq ?_
      refine sq ?_
      refine rg ?_
      refine mv (v := .int .i32 _) rfl rfl ?_
      refine geq rfl rfl rfl ?_
      refine nl ?_
      refine then_n ?_
      first | refine cd rfl (fun hc2 => ?_) (fun hc2 => ?_) | refine cn rfl (fun hc2 => ?_) (fun hc2 => ?_)   -- test 2
      · have h4 := g6 (by omega)
        have hu2 : u16 (rune1 (s.drop p)).1 = [55296 + ((((rune1 (s.drop p)).1 : Int) - 65536) / 1024), 56320 + ((((rune1 (s.drop p)).1 : Int) - 65536) % 1024)] := by
          unfold u16; rw [if_pos (by omega)]; congr 1; omega; congr 1; omega
        have hu2l : (u16 (rune1 (s.drop p)).1).length = 2 := by rw [hu2]; rfl
        refine sq ?_
        refine rg ?_
        refine mv (v := .int .i32 _) rfl rfl ?_
        refine sub rfl rfl (by first | exact w_i32 (by omega) | exact w_i32 (rng_i32 _) | rfl) rfl ?_
        refine asg (v := .int .i32 _) rfl rfl ?_
        refine nl ?_
        refine then_n ?_
        refine sq ?_
        refine rg ?_
        refine mv (v := .slice _ _ _) rfl rfl ?_
        refine mv (v := .int .i32 _) rfl rfl ?_
        refine shrK (s := 10) (p := 1024) rfl rfl (by decide) (by decide) rfl rfl ?_
        refine cvi rfl rfl Try.underlying22 (by first | exact w_u16 (by omega) | exact w_u16 (rng_u16 _) | exact m_u16 _) rfl ?_
        refine add rfl rfl (by first | exact w_u16 (by omega) | exact w_u16 (rng_u16 _) | exact m_u16 _) rfl ?_
        refine mv (v := .int .i32 _) rfl rfl ?_
        refine band (c := (((rune1 (s.drop p)).1 : Int) - 65536) % 1024) rfl rfl (and1023 (by omega)) rfl ?_
        refine cvi rfl rfl Try.underlying22 (by first | exact w_u16 (by omega) | exact w_u16 (rng_u16 _) | exact m_u16 _) rfl ?_
        refine add rfl rfl (by first | exact w_u16 (by omega) | exact w_u16 (rng_u16 _) | exact m_u16 _) rfl ?_
        refine bsl (sz := 1) (out := ?o1) H Try.underlying79 ze22 sz22_1 (by decide) ?f1 rfl ?_
        case f1 =>
          refine FS.one (v := .int .u16 _) rfl rfl rfl (by first | decide | simp) ?_
          refine FS.one (v := .int .u16 _) rfl rfl rfl (by first | decide | simp) ?_
          exact FS.nil
        intro b2 w4 hb2 H1 F; replace O := O.new F hb2 H1.look; clear H H1 F; have H := O.sh
        refine apO (zs := [.int .u16 0]) ([.int .u16 (55296 + ((((rune1 (s.drop p)).1 : Int) - 65536) / 1024)), .int .u16 (56320 + ((((rune1 (s.drop p)).1 : Int) - 65536) % 1024))]) O rfl rfl Try.underlying79 ri22 (by first | rfl | simp) (cells_look H.look) (by simp [Value.oneCell']) (by simp) (by omega) (by unfold maxLen; omega) rfl ?_
        clear O H; intro D9 cp9 w5 O
        have H := O.sh
        refine asg (v := .slice _ _ _) rfl rfl ?_
        refine nl ?_
        refine then_n ?_
        refine ex ?_
        refine then_e ?_
        refine in_hit rfl ?_
        refine loop_n ?_
        exact ⟨(p + (rune1 (s.drop p)).2, D9, cp9, us ++ u16 (rune1 (s.drop p)).1), (by (try dsimp only); omega), ⟨by omega, by rw [List.length_append, hu2]; simp; omega, by rw [hus, utf16_at hlt, List.append_assoc], by rw [hu2, List.length_append, List.map_append]; exact O.sub (by repeat (first | exact List.Sublist.refl _ | exact List.nil_sublist _ | apply List.Sublist.cons_cons | apply List.Sublist.cons))⟩, (fC (by first | rfl | exact congrArg (Value.int _) (by first | omega | assumption | (symm; assumption) | (simp; done) | (simp; omega)) | exact congrArg (fun n => Value.slice _ n _) (by first | omega | (simp; done) | (simp; omega))) (fN _)), (by repeat (first | exact Agree.setL rfl Agree.mask | exact Agree.self _ _ | refine Agree.upd rfl ?_ | refine Agree.setL rfl ?_ | refine Agree.mask2 rfl ?_))⟩
      · have hu1 : u16 (rune1 (s.drop p)).1 = [((rune1 (s.drop p)).1 : Int)] := by unfold u16; rw [if_neg (by omega)]
        have hu1l : (u16 (rune1 (s.drop p)).1).length = 1 := by rw [hu1]; rfl
        refine sk ?_
        refine then_n ?_
        refine rg ?_
        refine mv (v := .slice _ _ _) rfl rfl ?_
        refine mv (v := .int .i32 _) rfl rfl ?_
        refine cvi rfl rfl Try.underlying22 (by first | exact w_u16 (by omega) | exact w_u16 (rng_u16 _) | exact m_u16 _) rfl ?_
        refine bsl (sz := 1) (out := ?o2) H Try.underlying79 ze22 sz22_1 (by decide) ?f2 rfl ?_
        case f2 =>
          refine FS.one (v := .int .u16 _) rfl rfl rfl (by first | decide | simp) ?_
          exact FS.nil
        intro b3 w6 hb3 H1 F; replace O := O.new F hb3 H1.look; clear H H1 F; have H := O.sh
        refine apO (zs := [.int .u16 0]) ([.int .u16 ((rune1 (s.drop p)).1 : Int)]) O rfl rfl Try.underlying79 ri22 (by first | rfl | simp) (cells_look H.look) (by simp [Value.oneCell']) (by simp) (by omega) (by unfold maxLen; omega) rfl ?_
        clear O H; intro D9 cp9 w7 O
        have H := O.sh
        refine asg (v := .slice _ _ _) rfl rfl ?_
        refine nl ?_
        refine in_n ?_
        refine loop_n ?_
        exact ⟨(p + (rune1 (s.drop p)).2, D9, cp9, us ++ u16 (rune1 (s.drop p)).1), (by (try dsimp only); omega), ⟨by omega, by rw [List.length_append, hu1]; simp; omega, by rw [hus, utf16_at hlt, List.append_assoc], by rw [hu1, List.length_append, List.map_append]; exact O.sub (by repeat (first | exact List.Sublist.refl _ | exact List.nil_sublist _ | apply List.Sublist.cons_cons | apply List.Sublist.cons))⟩, (fC (by first | rfl | exact congrArg (Value.int _) (by first | omega | assumption | (symm; assumption) | (simp; done) | (simp; omega)) | exact congrArg (fun n => Value.slice _ n _) (by first | omega | (simp; done) | (simp; omega))) (fN _)), (by repeat (first | exact Agree.setL rfl Agree.mask | exact Agree.self _ _ | refine Agree.upd rfl ?_ | refine Agree.setL rfl ?_ | refine Agree.mask2 rfl ?_))⟩
    · refine ex ?_
      refine then_e ?_
      refine loop_e ?_
      refine in_hit rfl ?_
      refine then_n ?_
      refine sq ?_
      refine rg ?_
      refine mv (v := .slice _ _ _) rfl rfl ?_
      refine asg (v := .slice _ _ _) rfl rfl ?_
      refine nl ?_
      refine then_n ?_
      refine rt ?_
      refine fin_r ?_
      obtain rfl : p = s.length := by omega
      have e : utf16 s = us := by rw [hus, List.drop_length, utf16_nil, List.append_nil]
      rw [e]
      exact ⟨D, cap, rfl, O.sub (List.nil_sublist _)⟩

end Go.Proofs.Ythcaejaaalkglaa.X
/- What a value that was laid looks like: its cells, by its type's shape. -/
namespace Go.Proofs.Ythcaejaaalkglaa.X
open Go
set_option linter.unusedVariables false
mutual
inductive Shp where
  | int (k : IntKind)
  | bool
  | str
  | row (sz : Nat) (s : Shp)
  | ptr (sz : Nat) (s : Shp)
  | agg (tot : Nat) (ps : Prts)
  | any
inductive Prts where
  | nil
  | cons (o n : Nat) (s : Shp) (r : Prts)
end
def mkPrts : List (Nat × Nat × Shp) → Prts
  | [] => .nil
  | p :: r => .cons p.1 p.2.1 p.2.2 (mkPrts r)
def shpOf (P : Program) : Nat → TypeId → Shp
  | 0, _ => .any
  | d + 1, t => match P.underlying t with
    | some .bool => .bool
    | some (.int k) => .int k
    | some .string => .str
    | some (.slice e) => .row (P.cellsOf e) (shpOf P d e)
    | some (.pointer e) => .ptr (P.cellsOf e) (shpOf P d e)
    | some (.struct fs) => .agg (P.cellsOf t) (mkPrts (fs.toList.map fun f => (f.offset, P.cellsOf f.type, shpOf P d f.type)))
    | some (.array n e) => .agg (P.cellsOf t) (mkPrts ((List.range n).map fun i => (i * P.cellsOf e, P.cellsOf e, shpOf P d e)))
    | _ => .any
/-- The cells from an address on. -/
def At (w : World) (a : Addr) (cs : List Value) : Prop := ∀ j v, cs[j]? = some v → w.cell? (a.add j) = some v
mutual
def Is (w : World) : Shp → List Value → Prop
  | .int k, cs => ∃ n, cs = [.int k n] ∧ (Lit.int k n).wf = true
  | .bool, cs => ∃ b, cs = [.bool b]
  | .str, cs => ∃ s, cs = [.string s] ∧ s.size ≤ maxLen
  | .row sz s, cs => cs = [.slice none 0 0] ∨ ∃ a len cap, cs = [.slice (some a) len cap] ∧ len ≤ cap ∧ cap ≤ maxLen ∧ ∀ i, i < cap → ∃ es, es.length = sz ∧ At w (a.add (i * sz)) es ∧ Is w s es
  | .ptr sz s, cs => cs = [.pointer none] ∨ ∃ a es, cs = [.pointer (some a)] ∧ es.length = sz ∧ At w a es ∧ Is w s es
  | .agg tot ps, cs => cs.length = tot ∧ IsAll w ps cs
  | .any, _ => True
def IsAll (w : World) : Prts → List Value → Prop
  | .nil, _ => True
  | .cons o n s r, cs => Is w s ((cs.drop o).take n) ∧ IsAll w r cs
end
theorem IsAll_mk {w : World} {cs : List Value} : ∀ (l : List (Nat × Nat × Shp)), (∀ p ∈ l, Is w p.2.2 ((cs.drop p.1).take p.2.1)) → IsAll w (mkPrts l) cs
  | [], _ => by simp [mkPrts, IsAll]
  | p :: r, h => by
    simp only [mkPrts, IsAll]
    exact ⟨h p (.head _), IsAll_mk r fun q hq => h q (.tail _ hq)⟩
theorem mapM_len {α β : Type} {f : α → Option β} : ∀ {l : List α} {r : List β}, l.mapM f = some r → r.length = l.length
  | [], r, h => by simp at h; simp [h]
  | x :: l, r, h => by
    simp only [List.mapM_cons, Option.bind_eq_bind, Option.pure_def] at h
    cases hx : f x with
    | none => simp [hx] at h
    | some y =>
      cases hl : l.mapM f with
      | none => simp [hx, hl] at h
      | some r' =>
        simp [hx, hl] at h
        subst h
        simp [mapM_len hl]
theorem cells?_at {w : World} {b : Nat} {a : Addr} {n : Nat} {cs : List Value} (h : w.cells? b a n = some cs) : cs.length = n ∧ At w a cs := by
  unfold World.cells? at h
  split at h
  · refine ⟨by rw [mapM_len h]; simp, fun j v hj => ?_⟩
    have hl := mapM_len h
    have hjl : j < n := by
      have := (List.getElem?_eq_some_iff.1 hj).1
      simp at hl; omega
    obtain ⟨q, h1, h2⟩ := mapM_get h j j (by simp [hjl])
    rw [h2] at hj
    obtain rfl := Option.some.inj hj
    exact h1
  · cases h
theorem of_trod {H : Type} {enc : TypeId × Value → H} {P : Program} {w : World} {base : Nat} {held : Bool} : ∀ (d : Nat) (t : TypeId) (fuel : Nat) (cs : List Value) (x : DataW H × List MemPlace), DataW.trod enc P w base (fun _ => true) held fuel t cs = some x → Is w (shpOf P d t) cs := by
  intro d
  induction d with
  | zero => intro t fuel cs x h; simp [shpOf, Is]
  | succ d ih =>
    intro t fuel cs x h
    unfold shpOf
    cases hu : P.underlying t with
    | none => simp [Is]
    | some u =>
      cases u <;> simp only [] <;> try (simp only [Is]; done)
      case bool =>
        obtain ⟨b, rfl, _⟩ := DataW.trod_bool hu h
        exact (by simp [Is])
      case int k =>
        obtain ⟨n, rfl, _, hw⟩ := DataW.trod_int hu h
        simp only [Is]
        exact ⟨n, rfl, hw⟩
      case string =>
        obtain ⟨s, rfl, _, hs⟩ := DataW.trod_string hu h
        simp only [Is]
        exact ⟨s, rfl, hs⟩
      case pointer e =>
        simp only [Is]
        rcases DataW.trod_pointer hu h with ⟨rfl, _⟩ | ⟨a, es, y, n, _, rfl, _, hc, ht⟩
        · exact .inl rfl
        · exact .inr ⟨a, es, rfl, (cells?_at hc).1, (cells?_at hc).2, ih _ _ _ _ ht⟩
      case slice e =>
        simp only [Is]
        rcases DataW.trod_slice hu h with ⟨rfl, _⟩ | ⟨a, len, cap, elems, rest, n, _, rfl, _, hb, hl, hc, hel, h1, h2, _⟩
        · exact .inl rfl
        · refine .inr ⟨a, len, cap, rfl, hl, hc, fun i hi => ?_⟩
          obtain ⟨hr, h2⟩ := h2 rfl
          have : ∃ y, (w.cells? base (a.add (i * P.cellsOf e)) (P.cellsOf e)).bind (DataW.trod enc P w base (fun _ => true) held n e) = some y := by
            by_cases hil : i < len
            · exact ⟨_, (h1 i hil).trans (List.getElem?_eq_getElem (by omega))⟩
            · have := h2 (i - len) (by omega)
              rw [show len + (i - len) = i by omega] at this
              exact ⟨_, this.trans (List.getElem?_eq_getElem (by omega))⟩
          obtain ⟨y, hy⟩ := this
          obtain ⟨es, hes, hy⟩ := Option.bind_eq_some_iff.1 hy
          exact ⟨es, (cells?_at hes).1, (cells?_at hes).2, ih _ _ _ _ hy⟩
      case struct fs =>
        obtain ⟨xs, n, _, _, hl, hxl, hf⟩ := DataW.trod_struct hu h
        simp only [Is]
        refine ⟨hl, IsAll_mk _ fun p hp => ?_⟩
        obtain ⟨f, hfm, rfl⟩ := List.mem_map.1 hp
        obtain ⟨i, hi, hif⟩ := List.getElem_of_mem hfm
        have hif' : fs[i]? = some f := by
          rw [← Array.getElem?_toList, List.getElem?_eq_getElem hi, hif]
        have := hf i f hif'
        have hi' : i < xs.length := by simpa [hxl] using hi
        rw [List.getElem?_eq_getElem hi'] at this
        exact ih _ _ _ _ this
      case array n e =>
        obtain ⟨xs, m, _, _, hl, hxl, hf⟩ := DataW.trod_array hu h
        simp only [Is]
        refine ⟨hl, IsAll_mk _ fun p hp => ?_⟩
        obtain ⟨i, hi, rfl⟩ := List.mem_map.1 hp
        have hi : i < n := by simpa using hi
        have := hf i hi
        rw [List.getElem?_eq_getElem (by omega)] at this
        exact ih _ _ _ _ this
/-- An argument of a struct's or an array's type. -/
theorem okWide_agg {P : Program} {w : World} {r : Reach} {base : Nat} {t : TypeId} {v : Value} (ht : (∃ fs, P.underlying t = some (.struct fs)) ∨ ∃ n e, P.underlying t = some (.array n e)) (h : Value.okWide P w r base t v) : ∃ cs : List Value, v = .agg cs.toArray := by
  unfold Value.okWide at h
  rcases ht with ⟨fs, ht⟩ | ⟨n, e, ht⟩ <;>
  · rw [ht] at h
    obtain ⟨cs, rfl, _⟩ := h
    exact ⟨cs.toList, by simp⟩
theorem open_agg {H : Type} {enc : TypeId × Value → H} {P : Program} {w : World} {r : Reach} {base b0 : Nat} {held : Bool} {t : TypeId} {v : Value} {x : DataW H} {ps : List MemPlace} {s : Shp} (d : Nat) (hs : shpOf P d t = s) (ht : (∃ fs, P.underlying t = some (.struct fs)) ∨ ∃ n e, P.underlying t = some (.array n e)) (hv : Value.okWide P w r b0 t v) (h : DataW.Trod enc P w base (fun _ => true) held t v x ps) :
    ∃ cs : List Value, v = .agg cs.toArray ∧ Is w s cs := by
  obtain ⟨cs, rfl⟩ := okWide_agg ht hv
  obtain ⟨fuel, hf⟩ := h
  exact ⟨cs, rfl, hs ▸ of_trod d t fuel cs _ (by simpa [Value.cells] using hf)⟩
end Go.Proofs.Ythcaejaaalkglaa.X
/- Entries of a master boot record, as plain data. -/
namespace Go.Proofs.Ythcaejaaalkglaa.X
open Go
set_option linter.unusedVariables false
structure MP where
  ix : Int
  bt : Bool
  ty : Int
  st : Int
  sz : Int
  c0 : Int
  c1 : Int
  c2 : Int
  c3 : Int
  c4 : Int
  c5 : Int
def MP.cells (p : MP) : List Value := [.int .i64 p.ix, .bool p.bt, .int .u8 p.ty, .int .u32 p.st, .int .u32 p.sz, .int .u8 p.c0, .int .u8 p.c1, .int .u8 p.c2, .int .u8 p.c3, .int .u8 p.c4, .int .u8 p.c5]
structure MP.ok (p : MP) : Prop where
  ix : -9223372036854775808 ≤ p.ix ∧ p.ix ≤ 9223372036854775807
  ty : 0 ≤ p.ty ∧ p.ty ≤ 255
  st : 0 ≤ p.st ∧ p.st ≤ 4294967295
  sz : 0 ≤ p.sz ∧ p.sz ≤ 4294967295
  c0 : 0 ≤ p.c0 ∧ p.c0 ≤ 255
  c1 : 0 ≤ p.c1 ∧ p.c1 ≤ 255
  c2 : 0 ≤ p.c2 ∧ p.c2 ≤ 255
  c3 : 0 ≤ p.c3 ∧ p.c3 ≤ 255
  c4 : 0 ≤ p.c4 ∧ p.c4 ≤ 255
  c5 : 0 ≤ p.c5 ∧ p.c5 ≤ 255
def MP.zero : MP := ⟨0, false, 0, 0, 0, 0, 0, 0, 0, 0, 0⟩
theorem MP.zero_ok : MP.zero.ok := by constructor <;> decide
def MP.head (p : MP) : List UInt8 := [b8 (if p.bt then 128 else 0), b8 p.c1, b8 p.c2, b8 p.c0, b8 p.ty, b8 p.c4, b8 p.c5, b8 p.c3]
/-- An entry's sixteen bytes. -/
def MP.bytes (p : MP) : List UInt8 := p.head ++ leB 4 p.st ++ leB 4 p.sz
theorem MP.bytes_len (p : MP) : p.bytes.length = 16 := by simp [MP.bytes, MP.head, leB_len]
theorem flat_len {α β : Type} {f : α → List β} {k : Nat} (h : ∀ x, (f x).length = k) : ∀ l : List α, (l.flatMap f).length = l.length * k
  | [] => by simp
  | x :: l => by simp [List.flatMap_cons, h x, flat_len h l, Nat.add_mul]; omega
theorem flat_get {α β : Type} {f : α → List β} {k : Nat} (h : ∀ x, (f x).length = k) : ∀ (l : List α) (i : Nat) (x : α), l[i]? = some x → ((l.flatMap f).drop (i * k)).take k = f x
  | [], i, x, hx => by simp at hx
  | y :: l, 0, x, hx => by
    simp at hx; subst hx
    simp only [List.flatMap_cons, Nat.zero_mul, List.drop_zero]
    rw [List.take_append_of_le_length (by rw [h]; exact Nat.le_refl _), List.take_of_length_le (by rw [h]; exact Nat.le_refl _)]
  | y :: l, i + 1, x, hx => by
    simp only [List.flatMap_cons]
    rw [List.drop_append, List.drop_of_length_le (by rw [h, Nat.add_mul]; omega), h, List.nil_append]
    rw [show (i + 1) * k - k = i * k by rw [Nat.add_mul]; omega]
    exact flat_get h l i x (by simpa using hx)
theorem take_succ_get {α : Type} {l : List α} {i : Nat} {x : α} (h : l[i]? = some x) : l.take (i + 1) = l.take i ++ [x] := by
  rw [List.take_add_one, h]; rfl
theorem MP.cells_len (p : MP) : p.cells.length = 11 := rfl
/-- The table's bytes. -/
def mbrB (ds : List UInt8) (ps : List MP) : List UInt8 := pAt ds 446 (ps.flatMap MP.bytes ++ [85, 170])
/-- An entry, byte by byte. -/
theorem entry_put {X Y : List UInt8} {o a1 a2 a3 a4 a5 a6 a7 a8 a9 : Nat} {x0 x1 x2 x3 x4 x5 x6 x7 : UInt8} {l1 l2 : List UInt8} (h : o + 16 ≤ X.length) (hY : Y = X.set o x0) (h1 : a1 = o + 1) (h2 : a2 = o + 2) (h3 : a3 = o + 3) (h4 : a4 = o + 4) (h5 : a5 = o + 5) (h6 : a6 = o + 6) (h7 : a7 = o + 7) (h8 : a8 = o + 8) (h9 : a9 = o + 12) (hl1 : l1.length = 4) (hl2 : l2.length = 4) :
    pAt (pAt (((((((Y.set a1 x1).set a2 x2).set a3 x3).set a4 x4).set a5 x5).set a6 x6).set a7 x7) a8 l1) a9 l2 = pAt X o ([x0, x1, x2, x3, x4, x5, x6, x7] ++ l1 ++ l2) := by
  subst hY h1 h2 h3 h4 h5 h6 h7 h8 h9
  rw [set_first (cur := X) (by omega)]
  rw [show o + 1 = o + [x0].length from rfl, pAt_set (by simp; omega)]
  rw [show o + 2 = o + ([x0] ++ [x1]).length from rfl, pAt_set (by simp; omega)]
  rw [show o + 3 = o + ([x0] ++ [x1] ++ [x2]).length from rfl, pAt_set (by simp; omega)]
  rw [show o + 4 = o + ([x0] ++ [x1] ++ [x2] ++ [x3]).length from rfl, pAt_set (by simp; omega)]
  rw [show o + 5 = o + ([x0] ++ [x1] ++ [x2] ++ [x3] ++ [x4]).length from rfl, pAt_set (by simp; omega)]
  rw [show o + 6 = o + ([x0] ++ [x1] ++ [x2] ++ [x3] ++ [x4] ++ [x5]).length from rfl, pAt_set (by simp; omega)]
  rw [show o + 7 = o + ([x0] ++ [x1] ++ [x2] ++ [x3] ++ [x4] ++ [x5] ++ [x6]).length from rfl, pAt_set (by simp; omega)]
  simp only [List.cons_append, List.nil_append]
  rw [pAt_pAt (cur := X) (o := o) (p := o + 8) (by rfl) (by rw [hl1]; omega)]
  rw [pAt_pAt (cur := X) (o := o) (p := o + 12) (by simp [hl1]) (by rw [hl2]; omega)]
  simp
theorem entry_at {ds : List UInt8} {ps : List MP} {i : Nat} {p : MP} (hp : ps[i]? = some p) (h4 : i < 4) (hd : 512 ≤ ds.length) : pAt (pAt ds 446 ((ps.take i).flatMap MP.bytes)) (446 + 16 * i) p.bytes = pAt ds 446 ((ps.take (i + 1)).flatMap MP.bytes) := by
  have hl : ((ps.take i).flatMap MP.bytes).length = i * 16 := by
    rw [flat_len MP.bytes_len]; congr 1; have := (List.getElem?_eq_some_iff.1 hp).1; simp; omega
  rw [pAt_pAt (by rw [hl]; omega) (by rw [MP.bytes_len]; omega), take_succ_get hp]
  simp
theorem mp_ix {ps : List MP} {i : Nat} {p : MP} (hp : ps[i]? = some p) : ((ps.flatMap MP.cells).drop (((i : Nat) : Int).toNat * 11)).take 11 = p.cells := flat_get MP.cells_len ps i p hp
theorem mbr_end {ds : List UInt8} {ps : List MP} (h4 : ps.length = 4) (hd : 512 ≤ ds.length) {i : Nat} (hi : 4 ≤ i) : ((pAt ds 446 ((ps.take i).flatMap MP.bytes)).set 510 85).set 511 170 = mbrB ds ps := by
  rw [List.take_of_length_le (by omega)]
  have hl : (ps.flatMap MP.bytes).length = 64 := by rw [flat_len MP.bytes_len, h4]
  unfold mbrB
  rw [show 510 = 446 + (ps.flatMap MP.bytes).length by omega, pAt_set (by omega)]
  rw [show 511 = 446 + (ps.flatMap MP.bytes ++ [85]).length by simp [hl], pAt_set (by simp [hl]; omega)]
  simp
/-- What PartitionEqualBytes compares. -/
def eqE (xs ys : List UInt8) (o p : Nat) : Bool :=
  decide (((xs.getD o 0).toNat : Int) = (ys.getD p 0).toNat ∧ ((xs.getD (o + 4) 0).toNat : Int) = (ys.getD (p + 4) 0).toNat ∧ (xs.drop (o + 8)).take 4 = (ys.drop (p + 8)).take 4 ∧ (xs.drop (o + 12)).take 4 = (ys.drop (p + 12)).take 4)
def eqM (p q : MP) : Bool := decide (p.bt = q.bt ∧ p.ty = q.ty ∧ p.st = q.st ∧ p.sz = q.sz)
theorem drop_get {xs : List UInt8} {o k : Nat} (hk : k < 16) : xs.getD (o + k) 0 = ((xs.drop o).take 16).getD k 0 := by
  simp [List.getD_eq_getElem?_getD, hk]
theorem drop_four {xs : List UInt8} {o k : Nat} (hk : k + 4 ≤ 16) : (xs.drop (o + k)).take 4 = (((xs.drop o).take 16).drop k).take 4 := by
  rw [List.drop_take, List.take_take, List.drop_drop]
  congr 1; omega
theorem eqE_at (xs ys : List UInt8) (o p : Nat) : eqE xs ys o p = eqE ((xs.drop o).take 16) ((ys.drop p).take 16) 0 0 := by
  unfold eqE
  have h0 : xs.getD o 0 = ((xs.drop o).take 16).getD 0 0 := drop_get (k := 0) (by decide)
  have h1 : ys.getD p 0 = ((ys.drop p).take 16).getD 0 0 := drop_get (k := 0) (by decide)
  rw [h0, h1, drop_get (o := o) (k := 4) (by decide), drop_get (o := p) (k := 4) (by decide), drop_four (o := o) (k := 8) (by decide), drop_four (o := p) (k := 8) (by decide), drop_four (o := o) (k := 12) (by decide), drop_four (o := p) (k := 12) (by decide)]
theorem b8_nat {x : Int} (h : 0 ≤ x ∧ x ≤ 255) : ((b8 x).toNat : Int) = x := by
  have := u8v_b8 h
  unfold u8v at this
  simpa using this
theorem eqE_bytes {p q : MP} (hp : p.ok) (hq : q.ok) : eqE p.bytes q.bytes 0 0 = eqM p q := by
  have e0 : ∀ r : MP, r.bytes.getD 0 0 = b8 (if r.bt then 128 else 0) := fun r => rfl
  have e4 : ∀ r : MP, r.bytes.getD (0 + 4) 0 = b8 r.ty := fun r => rfl
  have e8 : ∀ r : MP, (r.bytes.drop (0 + 8)).take 4 = leB 4 r.st := fun r => rfl
  have e12 : ∀ r : MP, (r.bytes.drop (0 + 12)).take 4 = leB 4 r.sz := fun r => rfl
  unfold eqE eqM
  rw [e0, e0, e4, e4, e8, e8, e12, e12, b8_nat hp.ty, b8_nat hq.ty]
  have p4 : (256 : Int) ^ 4 = 4294967296 := by decide
  refine decide_eq_decide.2 ⟨fun h => ⟨?_, h.2.1, ?_, ?_⟩, fun h => ⟨?_, h.2.1, ?_, ?_⟩⟩
  · have := h.1
    cases hb : p.bt <;> cases hc : q.bt <;> simp [hb, hc, b8] at this ⊢
  · exact leB_inj 4 hp.st.1 (by rw [p4]; have := hp.st; omega) hq.st.1 (by rw [p4]; have := hq.st; omega) h.2.2.1
  · exact leB_inj 4 hp.sz.1 (by rw [p4]; have := hp.sz; omega) hq.sz.1 (by rw [p4]; have := hq.sz; omega) h.2.2.2
  · rw [h.1]
  · rw [h.2.2.1]
  · rw [h.2.2.2]
theorem mbr_get {ds : List UInt8} {ps : List MP} {i : Nat} {p : MP} (hp : ps[i]? = some p) (h4 : ps.length = 4) (hd : 512 ≤ ds.length) : ((mbrB ds ps).drop (446 + 16 * i)).take 16 = p.bytes := by
  have hi := (List.getElem?_eq_some_iff.1 hp).1
  have hl : (ps.flatMap MP.bytes).length = 64 := by rw [flat_len MP.bytes_len, h4]
  have h446 : (ds.take 446).length = 446 := by simp; omega
  unfold mbrB pAt
  rw [List.append_assoc, List.drop_append, h446, List.drop_of_length_le (by omega), List.nil_append, show 446 + 16 * i - 446 = i * 16 by omega, List.append_assoc, List.drop_append_of_le_length (by omega), List.take_append_of_le_length (by rw [List.length_drop]; omega)]
  exact flat_get MP.bytes_len ps i p hp
theorem eqE_mbr {ds es : List UInt8} {ps qs : List MP} {i j : Nat} {p q : MP} (hp : ps[i]? = some p) (h4 : ps.length = 4) (hd : 512 ≤ ds.length) (hq : qs[j]? = some q) (h4' : qs.length = 4) (hd' : 512 ≤ es.length) (op : p.ok) (oq : q.ok) : eqE (mbrB ds ps) (mbrB es qs) (446 + 16 * i) (446 + 16 * j) = eqM p q := by
  rw [eqE_at, mbr_get hp h4 hd, mbr_get hq h4' hd', eqE_bytes op oq]
theorem eqM_self (p : MP) : eqM p p = true := by simp [eqM]
def shpMP : Shp := .agg 11 (.cons 0 1 (.int .i64) (.cons 1 1 .bool (.cons 2 1 (.int .u8) (.cons 3 1 (.int .u32) (.cons 4 1 (.int .u32) (.cons 5 6 (.agg 6 (.cons 0 1 (.int .u8) (.cons 1 1 (.int .u8) (.cons 2 1 (.int .u8) (.cons 3 1 (.int .u8) (.cons 4 1 (.int .u8) (.cons 5 1 (.int .u8) .nil))))))) .nil))))))
theorem wfk {k : IntKind} {n : Int} (h : (Lit.int k n).wf = true) : k.min ≤ n ∧ n ≤ k.max := by simpa [Lit.wf] using h
theorem mp_of {w : World} {cs : List Value} (h : Is w shpMP cs) : ∃ p : MP, cs = p.cells ∧ p.ok := by
  simp only [shpMP, Is, IsAll] at h
  obtain ⟨hl, h⟩ := h
  match cs, hl with
  | [v0, v1, v2, v3, v4, v5, v6, v7, v8, v9, v10], _ =>
    simp [-Bool.exists_bool] at h
    obtain ⟨⟨x0, rfl, h0⟩, ⟨x1, rfl⟩, ⟨x2, rfl, h2⟩, ⟨x3, rfl, h3⟩, ⟨x4, rfl, h4⟩, ⟨x5, rfl, h5⟩, ⟨x6, rfl, h6⟩, ⟨x7, rfl, h7⟩, ⟨x8, rfl, h8⟩, ⟨x9, rfl, h9⟩, ⟨x10, rfl, h10⟩⟩ := h
    refine ⟨⟨x0, x1, x2, x3, x4, x5, x6, x7, x8, x9, x10⟩, rfl, wfk h0, wfk h2, wfk h3, wfk h4, wfk h5, wfk h6, wfk h7, wfk h8, wfk h9, wfk h10⟩
end Go.Proofs.Ythcaejaaalkglaa.X
/- The laws of single operations: bytes copied whole. -/
namespace Go.Proofs.Ythcaejaaalkglaa.X
set_option linter.unusedVariables false
open Go Go.RowKit
section steps
variable {P : Program} {n : Nat} {ops : Array Oper} {Q : Post} {rest : List Oper} {ρ : Env} {w : World} {ty : TypeId} {pos : String} {af : Array Edge} {d : Nat}
variable {w0 : World} {S : List Nat} {L L' : List Ent}
/-- copy(dst, src) of bytes for which there is room. -/
theorem cpP {t e T : TypeId} {x y : Operand} {b o dl dc sl sc f1 f2 : Nat} {A : Option Addr} {ds bs : List UInt8} (H : SH w0 S w L) (hx : ev ρ x = .slice (some ⟨b, o, none⟩) dl dc) (hy : ev ρ y = .slice A sl sc) (hu : P.underlying t = some (.slice e)) (hs : sizeB P e 1 = true)
    [lk : Look L b (.cells (Bs ds).toArray T (f1, f2))] (hr : RB w A sl bs) (hle : sl ≤ dl) (ho : o + dl ≤ ds.length) (hf : f2 ≤ o ∨ o + dl ≤ f1)
    [tn : Turn L b (.cells (Bs (pAt ds o bs)).toArray T (f1, f2)) L'] (hn : Nat.blt d n = true)
    (kk : ∀ w', SH w0 S w' L' → Fr [b] w w' → (pAt ds o bs).length = ds.length → wl P n ops Q rest (upd ρ d (.int .i64 (sl : Int))) w') : wl P n ops Q (⟨some d, .call { callee := .builtin .copy, args := #[x, y], argTypes := #[t, t] }, ty, pos, af, none⟩ :: rest) ρ w := by
  have hm : min sl dl = sl := Nat.min_eq_left hle
  have he : ds.take o ++ bs.take (min sl dl) ++ ds.drop (o + min sl dl) = pAt ds o bs := by
    rw [hm, List.take_of_length_le (l := bs) (by rw [hr.1]; exact Nat.le_refl _)]
    unfold pAt; rw [hr.1]
  refine cpB (L' := L') (tn := by rw [he]; exact tn) H hx hy hu hs hr ho hf hn (fun w' h1 h2 => ?_)
  rw [hm]; exact kk w' h1 h2 (pAt_len (by rw [hr.1]; omega))
/-- copy(dst, text). -/
theorem cpT {t e T tq : TypeId} {x y : Operand} {b o dl dc f1 f2 : Nat} {ds bs : List UInt8} (H : SH w0 S w L) (hx : ev ρ x = .slice (some ⟨b, o, none⟩) dl dc) (hy : ev ρ y = .string (str bs)) (hu : P.underlying t = some (.slice e)) (hs : sizeB P e 1 = true)
    [lk : Look L b (.cells (Bs ds).toArray T (f1, f2))] (hle : bs.length ≤ dl) (ho : o + dl ≤ ds.length) (hf : f2 ≤ o ∨ o + dl ≤ f1)
    [tn : Turn L b (.cells (Bs (pAt ds o bs)).toArray T (f1, f2)) L'] (hn : Nat.blt d n = true)
    (kk : ∀ w', SH w0 S w' L' → Fr [b] w w' → (pAt ds o bs).length = ds.length → wl P n ops Q rest (upd ρ d (.int .i64 (bs.length : Int))) w') : wl P n ops Q (⟨some d, .call { callee := .builtin .copy, args := #[x, y], argTypes := #[t, tq] }, ty, pos, af, none⟩ :: rest) ρ w := by
  have hL := H.look (b := b) (o := .cells (Bs ds).toArray T (f1, f2))
  obtain ⟨h2, f2'⟩ := heap_setCells (Bs bs) o w b (Bs ds) T (f1, f2) hL (by simp; omega)
  have hst := run_storeCells_at' (P := P) (o := o) (Bs bs) hL (by simp; omega) (by simp; omega) (by intro v hv; obtain ⟨_, _, rfl⟩ := List.mem_map.1 hv; rfl)
  have hex : List.take bs.length (List.map (fun b : UInt8 => Value.int .u8 (b.toNat : Int)) (str bs).data.toList) = Bs bs := by
    rw [List.take_of_length_le (by simp [str])]
    rfl
  refine val rfl rfl hn (w' := w.setCells b o (Bs bs)) (v := .int .i64 (bs.length : Int)) ?_ (kk _ (H.put (b := b) (o' := .cells (Bs (pAt ds o bs)).toArray T (f1, f2)) f2' ?_) f2' (pAt_len (by omega)))
  · have hmin : Nat.min bs.length dl = bs.length := Nat.min_eq_left hle
    simp only [execOp, resolve, invoke, builtin, Sem.run_bind, Sem.run_pure, Result.andThen_ok, List.map_toArray, List.map_cons, List.map_nil, hx, hy]
    simp [Builtin.copy_, run_underlying hu, Builtin.lenOf, run_sizeOf hs, hmin, Builtin.firstCells, hex, hst, goInt]
  · rw [h2]; simp [Bs, pAt]
end steps
end Go.Proofs.Ythcaejaaalkglaa.X
