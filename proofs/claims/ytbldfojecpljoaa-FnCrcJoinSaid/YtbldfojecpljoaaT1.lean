/- Walks of functions, printed by a program of this claim. -/
import Derived.Test.YtbldfojecpljoaaProg
import Derived.Test.YtbldfojecpljoaaRuns
import Derived.Test.YtbldfojecpljoaaCrcPure
namespace Go.Proofs.Ytbldfojecpljoaa.X
set_option linter.unusedVariables false
set_option linter.unusedSimpArgs false
open Go Go.RowKit

namespace T1
theorem ca13 : callable Try.prog 13 = true := by kernel_rfl
theorem ca14 : callable Try.prog 14 = true := by kernel_rfl
theorem ca35 : callable Try.prog 35 = true := by kernel_rfl
theorem sc5 : scalarB Try.prog 5 = true := by kernel_rfl
theorem sz5_1 : sizeB Try.prog 5 1 = true := by kernel_rfl
theorem ze5 : zeroL Try.prog 5 = some [.int .u8 0] := by kernel_rfl

end T1
open T1

set_option maxRecDepth 100000 in
theorem c_crc32c (w : World) (x : Int) (A : Option Addr) (m c : Nat) (bs : List UInt8) (hb : RB w A m bs) (hm : m ≤ 9223372036854775806) : Calls Try.prog 35 #[.int .u32 x, .slice A m c] w (Ret fun v w' => v = .int .u32 (crcC bs x) ∧ Fr [] w w') := by
  refine enter (fun ρ => ρ 4) Try.func35 rfl rfl rfl (res1 rfl) ?_
  have H := SH.nil w
  have hbl := hb.1
  refine sq ?_
  refine rg ?_
  refine asg (v := .int .u32 _) rfl rfl ?_
  refine nl ?_
  refine then_n ?_
  refine sq ?_
  refine sq ?_
  refine rg ?_
  refine mv (v := .slice _ _ _) rfl rfl ?_
  refine lnS rfl Try.underlying23 rfl ?_
  refine mv (v := .int .i64 _) rfl rfl ?_
  refine nl ?_
  refine then_n ?_
  refine bk ?_
  refine lpM (α := Nat × Int) [0, 6, 9, 10, 11, 12, 13, 14, 15, 16, 17, 18, 19, 20, 21, 22, 23, 24, 25, 26, 27, 28] (fun (i, y) => [(0, .int .u32 y), (9, .int .i64 (i : Int))]) (fun (i, y) w' => i ≤ m ∧ crcC bs x = crcC (bs.drop i) y ∧ SH w [] w' []) (fun (i, y) => m - i) (0, x) ?_ (fC (by first | rfl | exact congrArg (Value.int _) (by omega)) (fC (by first | rfl | exact congrArg (Value.int _) (by omega)) (fN _))) ?_   -- loop 1
  · exact ⟨by omega, by simp, H⟩
  · rintro ⟨i, y⟩ ρx w1 ⟨hi, hy, H⟩
    refine sq ?_
    refine rg ?_
    refine lss rfl rfl rfl ?_
    refine nl ?_
    refine then_n ?_
    refine sq ?_
    first | refine cd rfl (fun hc1 => ?_) (fun hc1 => ?_) | refine cn rfl (fun hc1 => ?_) (fun hc1 => ?_)   -- test 1
    · obtain ⟨ad, rfl, hcell⟩ := hb.2 i (by omega)
      have hcell := H.fr.cell hcell (by simp)
      refine sk ?_
      refine then_n ?_
      refine sq ?_
      refine bk ?_
      refine sq ?_
      refine rg ?_
      first | refine ia rfl rfl Try.underlying23 sz5_1 (by omega) rfl ?_ | refine iA rfl rfl Try.underlying23 sz5_1 (by omega) rfl ?_
      first | (refine ldb H rfl sc5 (by omega) rfl ?_; intro hu1) | refine ld H rfl sc5 rfl rfl ?_ | refine lc rfl (by assumption) sc5 rfl ?_
      refine asg (v := .int .u8 _) rfl rfl ?_
      refine nl ?_
      refine then_n ?_
      refine sq ?_
      refine rg ?_
      refine mv (v := .int .u32 _) rfl rfl ?_
      refine mv (v := .int .u8 _) rfl rfl ?_
      refine cvi rfl rfl Try.underlying22 (by first | exact w_u32 (by omega) | exact w_u32 (rng_u32 _) | exact m_u32 _) rfl ?_
      refine bxor rfl rfl rfl rfl ?_
      refine asg (v := .int .u32 _) rfl rfl ?_
      refine nl ?_
      refine then_n ?_
      refine sq ?_
      refine rg ?_
      refine mv (v := .int .i64 _) rfl rfl ?_
      refine nl ?_
      refine then_n ?_
      refine bk ?_
      refine lpM (α := Nat × Int) [0, 17, 18, 19, 20, 21, 22, 23, 24, 25, 26, 27] (fun (j, z) => [(0, .int .u32 z), (17, .int .i64 (j : Int))]) (fun (j, z) w' => j ≤ 8 ∧ crcN (8 - j) z = crcByte y (bs.getD i 0) ∧ SH w [] w' []) (fun (j, z) => 8 - j) (0, bits .xor .u32 y ((bs.getD i 0).toNat : Int)) ?_ (fC (by first | rfl | exact congrArg (Value.int _) (by omega)) (fC (by first | rfl | exact congrArg (Value.int _) (by omega)) (fN _))) ?_   -- loop 2
      · exact ⟨by omega, crcByte_eq _ _, H⟩
      · rintro ⟨j, z⟩ ρx w2 ⟨hj, hz, H⟩
        refine sq ?_
        refine rg ?_
        refine lss rfl rfl rfl ?_
        refine nl ?_
        refine then_n ?_
        refine sq ?_
        first | refine cd rfl (fun hc2 => ?_) (fun hc2 => ?_) | refine cn rfl (fun hc2 => ?_) (fun hc2 => ?_)   -- test 2
        · refine sk ?_
          refine then_n ?_
          refine sq ?_
          refine bk ?_
          refine sq ?_
          refine rg ?_
          refine mv (v := .int .u32 _) rfl rfl ?_
          refine band rfl rfl rfl rfl ?_
          refine neq rfl rfl rfl ?_
          refine nl ?_
          refine then_n ?_
          first | refine cd rfl (fun hc3 => ?_) (fun hc3 => ?_) | refine cn rfl (fun hc3 => ?_) (fun hc3 => ?_)   -- test 3
          · refine rg ?_
            refine mv (v := .int .u32 _) rfl rfl ?_
            refine shrK (s := 1) (p := 2) rfl rfl (by decide) (by decide) rfl rfl ?_
            refine bxor rfl rfl rfl rfl ?_
            refine asg (v := .int .u32 _) rfl rfl ?_
            refine nl ?_
            refine in_n ?_
            refine then_n ?_
            refine rg ?_
            refine add rfl rfl (by first | exact w_i64 (by omega) | exact w_i64 (rng_i64 _) | rfl) rfl ?_
            refine mv (v := .int .i64 _) rfl rfl ?_
            refine nl ?_
            refine loop_n ?_
            exact ⟨(j + 1, bits .xor .u32 (z / 2) 2197175160), (by (try dsimp only); omega), ⟨by omega, by rw [← hz, show 8 - j = (8 - (j + 1)) + 1 by omega]; simp only [crcN, crcBit]; rw [if_pos (hc3)], H⟩, (fC (by first | rfl | exact congrArg (Value.int _) (by omega)) (fC (by first | rfl | exact congrArg (Value.int _) (by omega)) (fN _))), (by repeat (first | exact Agree.setL rfl Agree.mask | refine Agree.upd rfl ?_ | refine Agree.setL rfl ?_ | refine Agree.mask2 rfl ?_))⟩
          · refine rg ?_
            refine mv (v := .int .u32 _) rfl rfl ?_
            refine shrK (s := 1) (p := 2) rfl rfl (by decide) (by decide) rfl rfl ?_
            refine asg (v := .int .u32 _) rfl rfl ?_
            refine nl ?_
            refine in_n ?_
            refine then_n ?_
            refine rg ?_
            refine add rfl rfl (by first | exact w_i64 (by omega) | exact w_i64 (rng_i64 _) | rfl) rfl ?_
            refine mv (v := .int .i64 _) rfl rfl ?_
            refine nl ?_
            refine loop_n ?_
            exact ⟨(j + 1, z / 2), (by (try dsimp only); omega), ⟨by omega, by rw [← hz, show 8 - j = (8 - (j + 1)) + 1 by omega]; simp only [crcN, crcBit]; rw [if_neg (hc3)], H⟩, (fC (by first | rfl | exact congrArg (Value.int _) (by omega)) (fC (by first | rfl | exact congrArg (Value.int _) (by omega)) (fN _))), (by repeat (first | exact Agree.setL rfl Agree.mask | refine Agree.upd rfl ?_ | refine Agree.setL rfl ?_ | refine Agree.mask2 rfl ?_))⟩
        · refine ex ?_
          refine then_e ?_
          refine loop_e ?_
          refine in_hit rfl ?_
          refine in_n ?_
          refine then_n ?_
          refine rg ?_
          refine add rfl rfl (by first | exact w_i64 (by omega) | exact w_i64 (rng_i64 _) | rfl) rfl ?_
          refine mv (v := .int .i64 _) rfl rfl ?_
          refine nl ?_
          refine loop_n ?_
          exact ⟨(i + 1, z), (by (try dsimp only); omega), ⟨by omega, by rw [hy, crcC_drop bs i y (by omega), ← hz, show 8 - j = 0 by omega]; rfl, H⟩, (fC (by first | rfl | exact congrArg (Value.int _) (by omega)) (fC (by first | rfl | exact congrArg (Value.int _) (by omega)) (fN _))), (by repeat (first | exact Agree.setL rfl Agree.mask | refine Agree.upd rfl ?_ | refine Agree.setL rfl ?_ | refine Agree.mask2 rfl ?_))⟩
    · refine ex ?_
      refine then_e ?_
      refine loop_e ?_
      refine in_hit rfl ?_
      refine then_n ?_
      refine sq ?_
      refine rg ?_
      refine mv (v := .int .u32 _) rfl rfl ?_
      refine asg (v := .int .u32 _) rfl rfl ?_
      refine nl ?_
      refine then_n ?_
      refine rt ?_
      refine fin_r ?_
      refine ⟨congrArg (Value.int .u32) ?_, H.fr⟩
      rw [hy, List.drop_of_length_le (by omega)]; rfl

set_option maxRecDepth 100000 in
theorem c_impl_crc32c (w : World) (x : Int) (A : Option Addr) (m c : Nat) (bs : List UInt8) (hb : RB w A m bs) (hm : m ≤ 9223372036854775806) : Calls Try.prog 13 #[.int .u32 x, .slice A m c] w (Ret fun v w' => v = .int .u32 (crcC bs x) ∧ Fr [] w w') := by
  refine enter (fun ρ => ρ 4) Try.func13 rfl rfl rfl (res1 rfl) ?_
  have H := SH.nil w
  refine sq ?_
  refine rg ?_
  refine asg (v := .int .u32 _) rfl rfl ?_
  refine nl ?_
  refine then_n ?_
  refine sq ?_
  refine rg ?_
  refine mv (v := .int .u32 _) rfl rfl ?_
  refine mv (v := .slice _ _ _) rfl rfl ?_
  refine cl ca35 (c_crc32c _ _ _ _ _ _ (by assumption) (by omega)) rfl ?_
  rintro _ w1 ⟨rfl, F⟩
  replace H := H.keep F; clear F
  refine asg (v := .int .u32 _) rfl rfl ?_
  refine nl ?_
  refine then_n ?_
  refine rt ?_
  refine fin_r ?_
  exact ⟨rfl, H.fr⟩

set_option maxRecDepth 100000 in
theorem c_spec_crc32c (w : World) (x : Int) (bs : List UInt8) (hm : bs.length ≤ 9223372036854775806) : Calls Try.prog 14 #[.int .u32 x, .string (str bs)] w (Ret fun v w' => v = .int .u32 (crcC bs x) ∧ Fr [] w w') := by
  refine enter (fun ρ => ρ 4) Try.func14 rfl rfl rfl (res1 rfl) ?_
  have H := SH.nil w
  have hsz := size_str bs
  refine sq ?_
  refine rg ?_
  refine asg (v := .int .u32 _) rfl rfl ?_
  refine nl ?_
  refine then_n ?_
  refine sq ?_
  refine sq ?_
  refine rg ?_
  refine mv (v := .string _) rfl rfl ?_
  refine lnT rfl Try.underlying9 rfl ?_
  refine mv (v := .int .i64 _) rfl rfl ?_
  refine nl ?_
  refine then_n ?_
  refine bk ?_
  refine lpM (α := Nat × Int) [0, 5, 6, 9, 10, 11, 12, 13, 14, 15, 16, 17, 18, 19, 20, 21, 22, 23, 24, 25, 26, 27, 28, 29] (fun (i, y) => [(0, .int .u32 y), (9, .int .i64 (i : Int))]) (fun (i, y) w' => i ≤ bs.length ∧ crcC bs x = crcC (bs.drop i) y ∧ SH w [] w' []) (fun (i, y) => bs.length - i) (0, x) ?_ (fC (by first | rfl | exact congrArg (Value.int _) (by omega)) (fC (by first | rfl | exact congrArg (Value.int _) (by omega)) (fN _))) ?_   -- loop 1
  · exact ⟨by omega, by simp, H⟩
  · rintro ⟨i, y⟩ ρx w1 ⟨hi, hy, H⟩
    refine sq ?_
    refine rg ?_
    refine lss rfl rfl rfl ?_
    refine nl ?_
    refine then_n ?_
    refine sq ?_
    first | refine cd rfl (fun hc1 => ?_) (fun hc1 => ?_) | refine cn rfl (fun hc1 => ?_) (fun hc1 => ?_)   -- test 1
    · refine sk ?_
      refine then_n ?_
      refine sq ?_
      refine bk ?_
      refine sq ?_
      refine rg ?_
      refine mv (v := .int .i64 _) rfl rfl ?_
      refine asg (v := .int .i64 _) rfl rfl ?_
      refine nl ?_
      refine then_n ?_
      refine sq ?_
      refine rg ?_
      refine mv (v := .int .u32 _) rfl rfl ?_
      refine mv (v := .string _) rfl rfl ?_
      refine mv (v := .int .i64 _) rfl rfl ?_
      refine ixS rfl rfl Try.underlying9 (by first | omega | (constructor <;> simp <;> omega)) rfl ?_; intro hu1
      refine cvi rfl rfl Try.underlying22 (by first | exact w_u32 (by omega) | exact w_u32 (rng_u32 _) | exact m_u32 _) rfl ?_
      refine bxor rfl rfl rfl rfl ?_
      refine asg (v := .int .u32 _) rfl rfl ?_
      refine nl ?_
      refine then_n ?_
      refine sq ?_
      refine rg ?_
      refine mv (v := .int .i64 _) rfl rfl ?_
      refine nl ?_
      refine then_n ?_
      refine bk ?_
      refine lpM (α := Nat × Int) [0, 6, 18, 19, 20, 21, 22, 23, 24, 25, 26, 27, 28] (fun (j, z) => [(0, .int .u32 z), (18, .int .i64 (j : Int))]) (fun (j, z) w' => j ≤ 8 ∧ crcN (8 - j) z = crcByte y (bs.getD i 0) ∧ SH w [] w' []) (fun (j, z) => 8 - j) (0, bits .xor .u32 y ((bs.getD i 0).toNat : Int)) ?_ (fC (by first | rfl | exact congrArg (Value.int _) (by omega)) (fC (by first | rfl | exact congrArg (Value.int _) (by omega)) (fN _))) ?_   -- loop 2
      · exact ⟨by omega, crcByte_eq _ _, H⟩
      · rintro ⟨j, z⟩ ρx w2 ⟨hj, hz, H⟩
        refine sq ?_
        refine rg ?_
        refine lss rfl rfl rfl ?_
        refine nl ?_
        refine then_n ?_
        refine sq ?_
        first | refine cd rfl (fun hc2 => ?_) (fun hc2 => ?_) | refine cn rfl (fun hc2 => ?_) (fun hc2 => ?_)   -- test 2
        · refine sk ?_
          refine then_n ?_
          refine sq ?_
          refine bk ?_
          refine sq ?_
          refine rg ?_
          refine mv (v := .int .u32 _) rfl rfl ?_
          refine band rfl rfl rfl rfl ?_
          refine asg (v := .int .u32 _) rfl rfl ?_
          refine nl ?_
          refine then_n ?_
          refine sq ?_
          refine rg ?_
          refine mv (v := .int .u32 _) rfl rfl ?_
          refine shrK (s := 1) (p := 2) rfl rfl (by decide) (by decide) rfl rfl ?_
          refine asg (v := .int .u32 _) rfl rfl ?_
          refine nl ?_
          refine then_n ?_
          refine sq ?_
          refine rg ?_
          refine mv (v := .int .u32 _) rfl rfl ?_
          refine eql rfl rfl rfl ?_
          refine nl ?_
          refine then_n ?_
          first | refine cd rfl (fun hc3 => ?_) (fun hc3 => ?_) | refine cn rfl (fun hc3 => ?_) (fun hc3 => ?_)   -- test 3
          · refine rg ?_
            refine mv (v := .int .u32 _) rfl rfl ?_
            refine bxor rfl rfl rfl rfl ?_
            refine asg (v := .int .u32 _) rfl rfl ?_
            refine nl ?_
            refine in_n ?_
            refine then_n ?_
            refine rg ?_
            refine add rfl rfl (by first | exact w_i64 (by omega) | exact w_i64 (rng_i64 _) | rfl) rfl ?_
            refine mv (v := .int .i64 _) rfl rfl ?_
            refine nl ?_
            refine loop_n ?_
            exact ⟨(j + 1, bits .xor .u32 (z / 2) 2197175160), (by (try dsimp only); omega), ⟨by omega, by rw [← hz, show 8 - j = (8 - (j + 1)) + 1 by omega]; simp only [crcN, crcBit]; rw [if_pos (by omega)], H⟩, (fC (by first | rfl | exact congrArg (Value.int _) (by omega)) (fC (by first | rfl | exact congrArg (Value.int _) (by omega)) (fN _))), (by repeat (first | exact Agree.setL rfl Agree.mask | refine Agree.upd rfl ?_ | refine Agree.setL rfl ?_ | refine Agree.mask2 rfl ?_))⟩
          · refine sk ?_
            refine in_n ?_
            refine then_n ?_
            refine rg ?_
            refine add rfl rfl (by first | exact w_i64 (by omega) | exact w_i64 (rng_i64 _) | rfl) rfl ?_
            refine mv (v := .int .i64 _) rfl rfl ?_
            refine nl ?_
            refine loop_n ?_
            exact ⟨(j + 1, z / 2), (by (try dsimp only); omega), ⟨by omega, by rw [← hz, show 8 - j = (8 - (j + 1)) + 1 by omega]; simp only [crcN, crcBit]; rw [if_neg (by have := bitAnd1 z; omega)], H⟩, (fC (by first | rfl | exact congrArg (Value.int _) (by omega)) (fC (by first | rfl | exact congrArg (Value.int _) (by omega)) (fN _))), (by repeat (first | exact Agree.setL rfl Agree.mask | refine Agree.upd rfl ?_ | refine Agree.setL rfl ?_ | refine Agree.mask2 rfl ?_))⟩
        · refine ex ?_
          refine then_e ?_
          refine loop_e ?_
          refine in_hit rfl ?_
          refine in_n ?_
          refine then_n ?_
          refine rg ?_
          refine add rfl rfl (by first | exact w_i64 (by omega) | exact w_i64 (rng_i64 _) | rfl) rfl ?_
          refine mv (v := .int .i64 _) rfl rfl ?_
          refine nl ?_
          refine loop_n ?_
          exact ⟨(i + 1, z), (by (try dsimp only); omega), ⟨by omega, by rw [hy, crcC_drop bs i y (by omega), ← hz, show 8 - j = 0 by omega]; rfl, H⟩, (fC (by first | rfl | exact congrArg (Value.int _) (by omega)) (fC (by first | rfl | exact congrArg (Value.int _) (by omega)) (fN _))), (by repeat (first | exact Agree.setL rfl Agree.mask | refine Agree.upd rfl ?_ | refine Agree.setL rfl ?_ | refine Agree.mask2 rfl ?_))⟩
    · refine ex ?_
      refine then_e ?_
      refine loop_e ?_
      refine in_hit rfl ?_
      refine then_n ?_
      refine sq ?_
      refine rg ?_
      refine mv (v := .int .u32 _) rfl rfl ?_
      refine asg (v := .int .u32 _) rfl rfl ?_
      refine nl ?_
      refine then_n ?_
      refine rt ?_
      refine fin_r ?_
      refine ⟨congrArg (Value.int .u32) ?_, H.fr⟩
      rw [hy, List.drop_of_length_le (by omega)]; rfl

set_option maxRecDepth 100000 in
theorem c_FnCrc32c (w : World) (x : Int) (A : Option Addr) (m c : Nat) (bs : List UInt8) (hb : RB w A m bs) (hm : m ≤ 9223372036854775807) (hmc : m ≤ c) : Calls Try.prog 3 #[.int .u32 x, .slice A m c] w (Ret fun v w' => v = .bool true ∧ Fr [] w w') := by
  refine enter (fun ρ => ρ 4) Try.func3 rfl rfl rfl (res1 rfl) ?_
  have H := SH.nil w
  have hbl := hb.1
  have hb3 := hb.take (k := (min (m : Int) 5000).toNat) (by omega)
  have hl3 := hb3.1
  refine sq ?_
  refine rg ?_
  refine asg (v := .bool _) rfl rfl ?_
  refine nl ?_
  refine then_n ?_
  refine sq ?_
  refine sq ?_
  refine rg ?_
  refine mv (v := .slice _ _ _) rfl rfl ?_
  refine lnS rfl Try.underlying23 rfl ?_
  refine gtr rfl rfl rfl ?_
  refine nl ?_
  refine then_n ?_
  first | refine cd rfl (fun hc1 => ?_) (fun hc1 => ?_) | refine cn rfl (fun hc1 => ?_) (fun hc1 => ?_)   -- test 1
  · refine sq ?_
    refine rg ?_
    refine asg (v := .bool _) rfl rfl ?_
    refine nl ?_
    refine then_n ?_
    refine rt ?_
    refine then_r ?_
    refine fin_r ?_
    exact ⟨rfl, H.fr⟩
  · refine sk ?_
    refine then_n ?_
    refine sq ?_
    refine rg ?_
    refine mv (v := .slice _ _ _) rfl rfl ?_
    refine mv (v := .slice _ _ _) rfl rfl ?_
    refine lnS rfl Try.underlying23 rfl ?_
    refine min2 rfl rfl rfl ?_
    refine slh rfl rfl Try.underlying23 sz5_1 (by first | trivial | omega | (simp; omega)) rfl ?_
    refine asg (v := .slice _ _ _) rfl rfl ?_
    refine nl ?_
    refine then_n ?_
    refine sq ?_
    refine dr (by kernel_rfl) ?_   -- region 4
    have H := H.drew
    refine holdH H [] ?_
    refine tk (i := 0) rfl (by kernel_rfl) rfl H (fun w' H => r_mv (v := .int .u32 _) rfl) ?_
    refine tk (i := 1) rfl (by kernel_rfl) rfl H (fun w' H => r_mv (v := .slice _ _ _) rfl) ?_
    refine tk (i := 3) rfl (by kernel_rfl) rfl H (fun w' H => r_mv (v := .int .u32 _) rfl) ?_
    refine tk (i := 4) rfl (by kernel_rfl) rfl H (fun w' H => r_mv (v := .slice _ _ _) rfl) ?_
    refine tk (i := 5) rfl (by kernel_rfl) rfl H (fun w' H => r_cvBS rfl (by exact hb3.keep H.fr) Try.underlying23 Try.underlying5 Try.underlying9) ?_
    refine fk (i := 2) (by kernel_rfl) rfl rfl rfl ?_
    refine cl ca13 (c_impl_crc32c _ _ _ _ _ _ (hb3.keep H.fr) (by omega)) rfl ?_
    rintro _ w1 ⟨rfl, F⟩
    replace H := H.keep F; clear F
    refine nl ?_
    refine then_n ?_
    refine ⟨H, ?_⟩
    refine fk (i := 6) (by kernel_rfl) rfl rfl rfl ?_
    refine cl ca14 (c_spec_crc32c _ _ _ (by omega)) rfl ?_
    rintro _ w2 ⟨rfl, F⟩
    replace H := H.keep F; clear F
    refine nl ?_
    refine then_n ?_
    refine ⟨H, ?_⟩
    refine tk (i := 7) rfl (by kernel_rfl) rfl H (fun w' H => r_eql rfl rfl) ?_
    refine tk (i := 8) rfl (by kernel_rfl) rfl H (fun w' H => r_mv (v := .bool _) rfl) ?_
    first | refine spaL (t := 21) (b := true) rfl ?_ | refine spaT (t := 21) rfl rfl ?_   -- guard 1
    refine fk (i := 9) (by kernel_rfl) rfl rfl rfl ?_
    refine gy rfl ?_
    refine bsl (sz := 1) (out := ?o1) H Try.underlying23 ze5 sz5_1 (by decide) ?f1 rfl ?_
    case f1 =>
      refine FS.one (v := .int .u8 _) rfl rfl rfl (by decide) ?_
      refine FS.one (v := .int .u8 _) rfl rfl rfl (by decide) ?_
      exact FS.nil
    clear H; intro b1 w3 hb1 H _
    refine nl ?_
    refine then_n ?_
    refine ⟨H.drop, ?_⟩
    refine fk (i := 10) (by kernel_rfl) rfl rfl rfl ?_
    refine gy rfl ?_
    refine cvM H rfl Try.underlying23 Try.underlying5 rfl ?_
    clear H; intro w4 H _
    refine nl ?_
    refine then_n ?_
    refine ⟨H.drop, ?_⟩
    refine fk (i := 11) (by kernel_rfl) rfl rfl rfl ?_
    refine gy rfl ?_
    refine cl ca13 (c_impl_crc32c _ _ _ _ _ [97, 98] (RB.allL [97, 98] H rfl) (by decide)) rfl ?_
    rintro _ w5 ⟨rfl, F⟩
    replace H := H.keep F; clear F
    refine nl ?_
    refine then_n ?_
    refine ⟨H.drop, ?_⟩
    refine tkg (i := 12) rfl (by kernel_rfl) rfl H.drop rfl (fun w' H => r_neq rfl rfl) ?_
    refine tk (i := 13) rfl (by kernel_rfl) rfl H.drop (fun w' H => r_pkT (v := .bool _) rfl rfl) ?_
    refine tk (i := 14) rfl (by kernel_rfl) rfl H.drop (fun w' H => r_asg (v := .bool _) rfl) ?_
    refine da (by kernel_rfl) ?_
    refine then_n ?_
    refine rt ?_
    refine fin_r ?_
    exact ⟨congrArg Value.bool (decide_eq_true (by decide +kernel)), H.fr⟩

end Go.Proofs.Ytbldfojecpljoaa.X
