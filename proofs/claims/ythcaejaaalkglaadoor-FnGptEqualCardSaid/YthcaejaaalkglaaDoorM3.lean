/- Laws and walks on the road to the statement: P1, P2, P3, Steps6, P4, P5, P6. -/
import Derived.Test.YthcaejaaalkglaaDoorM2
import Derived.Test.YthcaejaaalkglaaDoorProg
/- Walks of functions, printed by a program of this claim. -/
namespace Go.Proofs.YthcaejaaalkglaaDoor.X
set_option linter.unusedVariables false
set_option linter.unusedSimpArgs false
open Go Go.RowKit
namespace PF
theorem ag77_16 : aggB Tryd.prog 77 16 = true := by kernel_rfl
theorem bo77 : buildOK Tryd.prog 77 = true := by kernel_rfl
theorem pl77_0 : placeOf Tryd.prog 77 0 = some (0, 1) := by kernel_rfl
theorem pl77_1 : placeOf Tryd.prog 77 1 = some (1, 1) := by kernel_rfl
theorem pl77_10 : placeOf Tryd.prog 77 10 = some (10, 1) := by kernel_rfl
theorem pl77_11 : placeOf Tryd.prog 77 11 = some (11, 1) := by kernel_rfl
theorem pl77_12 : placeOf Tryd.prog 77 12 = some (12, 1) := by kernel_rfl
theorem pl77_13 : placeOf Tryd.prog 77 13 = some (13, 1) := by kernel_rfl
theorem pl77_14 : placeOf Tryd.prog 77 14 = some (14, 1) := by kernel_rfl
theorem pl77_15 : placeOf Tryd.prog 77 15 = some (15, 1) := by kernel_rfl
theorem pl77_2 : placeOf Tryd.prog 77 2 = some (2, 1) := by kernel_rfl
theorem pl77_3 : placeOf Tryd.prog 77 3 = some (3, 1) := by kernel_rfl
theorem pl77_4 : placeOf Tryd.prog 77 4 = some (4, 1) := by kernel_rfl
theorem pl77_5 : placeOf Tryd.prog 77 5 = some (5, 1) := by kernel_rfl
theorem pl77_6 : placeOf Tryd.prog 77 6 = some (6, 1) := by kernel_rfl
theorem pl77_7 : placeOf Tryd.prog 77 7 = some (7, 1) := by kernel_rfl
theorem pl77_8 : placeOf Tryd.prog 77 8 = some (8, 1) := by kernel_rfl
theorem pl77_9 : placeOf Tryd.prog 77 9 = some (9, 1) := by kernel_rfl
theorem sc5 : scalarB Tryd.prog 5 = true := by kernel_rfl
theorem sz5_1 : sizeB Tryd.prog 5 1 = true := by kernel_rfl
theorem ze77 : zeroL Tryd.prog 77 = some [.int .i64 0, .int .i64 0, .int .i64 0, .int .i64 0, .int .i64 0, .int .i64 0, .int .i64 0, .int .i64 0, .int .i64 0, .int .i64 0, .int .i64 0, .int .i64 0, .int .i64 0, .int .i64 0, .int .i64 0, .int .i64 0] := by kernel_rfl
end PF
open PF
set_option maxRecDepth 100000 in
set_option maxHeartbeats 1000000 in
theorem c_specCrc (w : World) (B : Option Addr) (m c : Nat) (bs : List UInt8) (hb : RB w B m bs) (hm : m ≤ 9223372036854775806) : Calls Tryd.prog 44 #[.slice B m c] w (Ret fun v w' => v = .int .u32 (crc32 bs) ∧ Fr [] w w') := by
 refine enter (fun ρ => ρ 2) Tryd.func44 rfl rfl rfl (res1 rfl) ?_
 have H := SH.nil w
 have hbl := hb.1
 refine sq ?_
 refine rg ?_
 refine asg (v := .int .u32 _) rfl rfl ?_
 refine nl ?_
 refine then_n ?_
 refine sq ?_
 refine rg ?_
 refine asg (v := .int .u32 _) rfl rfl ?_
 refine nl ?_
 refine then_n ?_
 refine sq ?_
 refine sq ?_
 refine rg ?_
 refine mv (v := .slice _ _ _) rfl rfl ?_
 refine lnS rfl Tryd.underlying30 rfl ?_
 refine mv (v := .int .i64 _) rfl rfl ?_
 refine nl ?_
 refine then_n ?_
 refine bk ?_
 refine lpM (α := Nat × Int) [3, 5, 6, 9, 10, 11, 12, 13, 14, 15, 16, 17, 18, 19, 20, 21, 22, 23, 24, 25, 26, 27, 28] (fun (i, y) => [(3, .int .u32 y), (9, .int .i64 (i : Int))]) (fun (i, y) w' => i ≤ m ∧ gC bs 4294967295 = gC (bs.drop i) y ∧ SH w [] w' []) (fun (i, y) => m - i) (0, 4294967295) ?_ (fCX (fCX (fN _))) ?_
 ·exact ⟨by omega, by simp, H⟩
 ·rintro ⟨i, y⟩ ρx w1 ⟨hi, hy, H⟩
  refine sq ?_
  refine rg ?_
  refine lss rfl rfl rfl ?_
  refine nl ?_
  refine then_n ?_
  refine sq ?_
  refine cd rfl (fun hc1 => ?_) (fun hc1 => ?_)
  ·obtain ⟨ad, rfl, hcell⟩ := hb.2 i (by omega)
   have hcell := H.fr.cell hcell (by simp)
   refine sk ?_
   refine then_n ?_
   refine sq ?_
   refine bk ?_
   refine sq ?_
   refine rg ?_
   refine iA rfl rfl Tryd.underlying30 sz5_1 (by omega) rfl ?_
   refine lc rfl (by first | assumption | exact H.fr.cell (by assumption) (by simp)) sc5 rfl ?_
   refine asg (v := .int .u8 _) rfl rfl ?_
   refine nl ?_
   refine then_n ?_
   refine sq ?_
   refine rg ?_
   refine mv (v := .int .u32 _) rfl rfl ?_
   refine mv (v := .int .u8 _) rfl rfl ?_
   refine cvi rfl rfl Tryd.underlying53 (by first | exact w_u32 (by omega) | exact w_u32 (rng_u32 _) | exact m_u32 _) rfl ?_
   refine bxor rfl rfl rfl rfl ?_
   refine asg (v := .int .u32 _) rfl rfl ?_
   refine nl ?_
   refine then_n ?_
   refine sq ?_
   refine rg ?_
   refine mv (v := .int .i64 _) rfl rfl ?_
   refine nl ?_
   refine then_n ?_
   refine bk ?_
   refine lpM (α := Nat × Int) [3, 6, 17, 18, 19, 20, 21, 22, 23, 24, 25, 26, 27] (fun (j, z) => [(3, .int .u32 z), (17, .int .i64 (j : Int))]) (fun (j, z) w' => j ≤ 8 ∧ gN (8 - j) z = gByte y (bs.getD i 0) ∧ SH w [] w' []) (fun (j, z) => 8 - j) (0, bits .xor .u32 y ((bs.getD i 0).toNat : Int)) ?_ (fCX (fCX (fN _))) ?_
   ·exact ⟨by omega, gByte_eq _ _, H⟩
   ·rintro ⟨j, z⟩ ρx w2 ⟨hj, hz, H⟩
    refine sq ?_
    refine rg ?_
    refine lss rfl rfl rfl ?_
    refine nl ?_
    refine then_n ?_
    refine sq ?_
    refine cd rfl (fun hc2 => ?_) (fun hc2 => ?_)
    ·refine sk ?_
     refine then_n ?_
     refine sq ?_
     refine bk ?_
     refine sq ?_
     refine rg ?_
     refine mv (v := .int .u32 _) rfl rfl ?_
     refine band rfl rfl rfl rfl ?_
     refine asg (v := .int .u32 _) rfl rfl ?_
     refine nl ?_
     refine then_n ?_
     refine sq ?_
     refine rg ?_
     refine mv (v := .int .u32 _) rfl rfl ?_
     refine shrK (s := 1) (p := 2) rfl rfl (by decide) (by decide) rfl rfl ?_
     refine asg (v := .int .u32 _) rfl rfl ?_
     refine nl ?_
     refine then_n ?_
     refine sq ?_
     refine rg ?_
     refine mv (v := .int .u32 _) rfl rfl ?_
     refine eql rfl rfl rfl ?_
     refine nl ?_
     refine then_n ?_
     refine cd rfl (fun hc3 => ?_) (fun hc3 => ?_)
     ·refine rg ?_
      refine mv (v := .int .u32 _) rfl rfl ?_
      refine bxor rfl rfl rfl rfl ?_
      refine asg (v := .int .u32 _) rfl rfl ?_
      refine nl ?_
      refine in_n ?_
      refine then_n ?_
      refine rg ?_
      refine add rfl rfl (by first | exact w_i64 (by omega) | exact w_i64 (rng_i64 _) | rfl) rfl ?_
      refine mv (v := .int .i64 _) rfl rfl ?_
      refine nl ?_
      refine loop_n ?_
      exact ⟨(j + 1, bits .xor .u32 (z / 2) 3988292384), (by (try dsimp only); omega), ⟨by omega, by rw [← hz, show 8 - j = (8 - (j + 1)) + 1 by omega]; simp only [gN, gBit]; rw [if_pos (by omega)], H⟩, (fCX (fCX (fN _))), agX⟩
     ·refine sk ?_
      refine in_n ?_
      refine then_n ?_
      refine rg ?_
      refine add rfl rfl (by first | exact w_i64 (by omega) | exact w_i64 (rng_i64 _) | rfl) rfl ?_
      refine mv (v := .int .i64 _) rfl rfl ?_
      refine nl ?_
      refine loop_n ?_
      exact ⟨(j + 1, z / 2), (by (try dsimp only); omega), ⟨by omega, by rw [← hz, show 8 - j = (8 - (j + 1)) + 1 by omega]; simp only [gN, gBit]; rw [if_neg (by have := gAnd1 z; omega)], H⟩, (fCX (fCX (fN _))), agX⟩
    ·refine ex ?_
     refine then_e ?_
     refine loop_e ?_
     refine in_hit rfl ?_
     refine in_n ?_
     refine then_n ?_
     refine rg ?_
     refine add rfl rfl (by first | exact w_i64 (by omega) | exact w_i64 (rng_i64 _) | rfl) rfl ?_
     refine mv (v := .int .i64 _) rfl rfl ?_
     refine nl ?_
     refine loop_n ?_
     exact ⟨(i + 1, z), (by (try dsimp only); omega), ⟨by omega, by rw [hy, gC_drop bs i y (by omega), ← hz, show 8 - j = 0 by omega]; rfl, H⟩, (fCX (fCX (fN _))), agX⟩
  ·refine ex ?_
   refine then_e ?_
   refine loop_e ?_
   refine in_hit rfl ?_
   refine then_n ?_
   refine sq ?_
   refine rg ?_
   refine mv (v := .int .u32 _) rfl rfl ?_
   refine ucompl rfl rfl rfl ?_
   refine asg (v := .int .u32 _) rfl rfl ?_
   refine nl ?_
   refine then_n ?_
   refine rt ?_
   refine fin_r ?_
   refine ⟨congrArg (Value.int .u32) ?_, H.fr⟩
   unfold crc32
   rw [hy, List.drop_of_length_le (by omega)]; rfl
set_option maxRecDepth 100000 in
set_option maxHeartbeats 1000000 in
theorem c_zzCrc (w : World) (B : Option Addr) (m c : Nat) (bs : List UInt8) (hb : RB w B m bs) (hm : m ≤ 9223372036854775806) : Calls Tryd.prog 68 #[.slice B m c] w (Ret fun v w' => v = .int .u32 (crc32 bs) ∧ Fr [] w w') := by
 refine enter (fun ρ => ρ 2) Tryd.func68 rfl rfl rfl (res1 rfl) ?_
 have H := SH.nil w
 have hbl := hb.1
 refine sq ?_
 refine rg ?_
 refine asg (v := .int .u32 _) rfl rfl ?_
 refine nl ?_
 refine then_n ?_
 refine sq ?_
 refine rg ?_
 refine asg (v := .int .u32 _) rfl rfl ?_
 refine nl ?_
 refine then_n ?_
 refine sq ?_
 refine sq ?_
 refine rg ?_
 refine mv (v := .slice _ _ _) rfl rfl ?_
 refine lnS rfl Tryd.underlying30 rfl ?_
 refine mv (v := .int .i64 _) rfl rfl ?_
 refine nl ?_
 refine then_n ?_
 refine bk ?_
 refine lpM (α := Nat × Int) [3, 5, 8, 9, 10, 11, 12, 13, 14, 15, 16, 17, 18, 19, 20, 21, 22, 23, 24, 25, 26, 27] (fun (i, y) => [(3, .int .u32 y), (8, .int .i64 (i : Int))]) (fun (i, y) w' => i ≤ m ∧ gC bs 4294967295 = gC (bs.drop i) y ∧ SH w [] w' []) (fun (i, y) => m - i) (0, 4294967295) ?_ (fCX (fCX (fN _))) ?_
 ·exact ⟨by omega, by simp, H⟩
 ·rintro ⟨i, y⟩ ρx w1 ⟨hi, hy, H⟩
  refine sq ?_
  refine rg ?_
  refine lss rfl rfl rfl ?_
  refine nl ?_
  refine then_n ?_
  refine sq ?_
  refine cd rfl (fun hc1 => ?_) (fun hc1 => ?_)
  ·obtain ⟨ad, rfl, hcell⟩ := hb.2 i (by omega)
   have hcell := H.fr.cell hcell (by simp)
   refine sk ?_
   refine then_n ?_
   refine sq ?_
   refine bk ?_
   refine sq ?_
   refine rg ?_
   refine iA rfl rfl Tryd.underlying30 sz5_1 (by omega) rfl ?_
   refine lc rfl (by first | assumption | exact H.fr.cell (by assumption) (by simp)) sc5 rfl ?_
   refine asg (v := .int .u8 _) rfl rfl ?_
   refine nl ?_
   refine then_n ?_
   refine sq ?_
   refine rg ?_
   refine mv (v := .int .u32 _) rfl rfl ?_
   refine mv (v := .int .u8 _) rfl rfl ?_
   refine cvi rfl rfl Tryd.underlying53 (by first | exact w_u32 (by omega) | exact w_u32 (rng_u32 _) | exact m_u32 _) rfl ?_
   refine bxor rfl rfl rfl rfl ?_
   refine asg (v := .int .u32 _) rfl rfl ?_
   refine nl ?_
   refine then_n ?_
   refine sq ?_
   refine rg ?_
   refine mv (v := .int .i64 _) rfl rfl ?_
   refine nl ?_
   refine then_n ?_
   refine bk ?_
   refine lpM (α := Nat × Int) [3, 16, 17, 18, 19, 20, 21, 22, 23, 24, 25, 26] (fun (j, z) => [(3, .int .u32 z), (16, .int .i64 (j : Int))]) (fun (j, z) w' => j ≤ 8 ∧ gN (8 - j) z = gByte y (bs.getD i 0) ∧ SH w [] w' []) (fun (j, z) => 8 - j) (0, bits .xor .u32 y ((bs.getD i 0).toNat : Int)) ?_ (fCX (fCX (fN _))) ?_
   ·exact ⟨by omega, gByte_eq _ _, H⟩
   ·rintro ⟨j, z⟩ ρx w2 ⟨hj, hz, H⟩
    refine sq ?_
    refine rg ?_
    refine lss rfl rfl rfl ?_
    refine nl ?_
    refine then_n ?_
    refine sq ?_
    refine cd rfl (fun hc2 => ?_) (fun hc2 => ?_)
    ·refine sk ?_
     refine then_n ?_
     refine sq ?_
     refine bk ?_
     refine sq ?_
     refine rg ?_
     refine mv (v := .int .u32 _) rfl rfl ?_
     refine band rfl rfl rfl rfl ?_
     refine neq rfl rfl rfl ?_
     refine nl ?_
     refine then_n ?_
     refine cd rfl (fun hc3 => ?_) (fun hc3 => ?_)
     ·refine rg ?_
      refine mv (v := .int .u32 _) rfl rfl ?_
      refine shrK (s := 1) (p := 2) rfl rfl (by decide) (by decide) rfl rfl ?_
      refine bxor rfl rfl rfl rfl ?_
      refine asg (v := .int .u32 _) rfl rfl ?_
      refine nl ?_
      refine in_n ?_
      refine then_n ?_
      refine rg ?_
      refine add rfl rfl (by first | exact w_i64 (by omega) | exact w_i64 (rng_i64 _) | rfl) rfl ?_
      refine mv (v := .int .i64 _) rfl rfl ?_
      refine nl ?_
      refine loop_n ?_
      exact ⟨(j + 1, bits .xor .u32 (z / 2) 3988292384), (by (try dsimp only); omega), ⟨by omega, by rw [← hz, show 8 - j = (8 - (j + 1)) + 1 by omega]; simp only [gN, gBit]; rw [if_pos (hc3)], H⟩, (fCX (fCX (fN _))), agX⟩
     ·refine rg ?_
      refine mv (v := .int .u32 _) rfl rfl ?_
      refine shrK (s := 1) (p := 2) rfl rfl (by decide) (by decide) rfl rfl ?_
      refine asg (v := .int .u32 _) rfl rfl ?_
      refine nl ?_
      refine in_n ?_
      refine then_n ?_
      refine rg ?_
      refine add rfl rfl (by first | exact w_i64 (by omega) | exact w_i64 (rng_i64 _) | rfl) rfl ?_
      refine mv (v := .int .i64 _) rfl rfl ?_
      refine nl ?_
      refine loop_n ?_
      exact ⟨(j + 1, z / 2), (by (try dsimp only); omega), ⟨by omega, by rw [← hz, show 8 - j = (8 - (j + 1)) + 1 by omega]; simp only [gN, gBit]; rw [if_neg (hc3)], H⟩, (fCX (fCX (fN _))), agX⟩
    ·refine ex ?_
     refine then_e ?_
     refine loop_e ?_
     refine in_hit rfl ?_
     refine in_n ?_
     refine then_n ?_
     refine rg ?_
     refine add rfl rfl (by first | exact w_i64 (by omega) | exact w_i64 (rng_i64 _) | rfl) rfl ?_
     refine mv (v := .int .i64 _) rfl rfl ?_
     refine nl ?_
     refine loop_n ?_
     exact ⟨(i + 1, z), (by (try dsimp only); omega), ⟨by omega, by rw [hy, gC_drop bs i y (by omega), ← hz, show 8 - j = 0 by omega]; rfl, H⟩, (fCX (fCX (fN _))), agX⟩
  ·refine ex ?_
   refine then_e ?_
   refine loop_e ?_
   refine in_hit rfl ?_
   refine then_n ?_
   refine sq ?_
   refine rg ?_
   refine mv (v := .int .u32 _) rfl rfl ?_
   refine ucompl rfl rfl rfl ?_
   refine asg (v := .int .u32 _) rfl rfl ?_
   refine nl ?_
   refine then_n ?_
   refine rt ?_
   refine fin_r ?_
   refine ⟨congrArg (Value.int .u32) ?_, H.fr⟩
   unfold crc32
   rw [hy, List.drop_of_length_le (by omega)]; rfl
set_option maxRecDepth 100000 in
set_option maxHeartbeats 1000000 in
theorem c_hexOf (w : World) (x : Int) (hx : 0 ≤ x ∧ x ≤ 255) : Calls Tryd.prog 39 #[.int .u8 x] w (Ret fun v w' => v = .int .i64 (hexN x) ∧ Fr [] w w') := by
 refine enter (fun ρ => ρ 2) Tryd.func39 rfl rfl rfl (res1 rfl) ?_
 have H := SH.nil w
 refine sq ?_
 refine rg ?_
 refine asg (v := .int .i64 _) rfl rfl ?_
 refine nl ?_
 refine then_n ?_
 refine sq ?_
 refine bk ?_
 refine sq ?_
 refine rg ?_
 refine mv (v := .int .u8 _) rfl rfl ?_
 refine geq rfl rfl rfl ?_
 refine mv (v := .bool _) rfl rfl ?_
 refine spd (t := 6) rfl (fun hg1 => ?_) (fun hg1 => ?_)
 ·refine gy rfl ?_
  refine mv (v := .int .u8 _) rfl rfl ?_
  refine gy rfl ?_
  refine leq rfl rfl rfl ?_
  refine pkT (v := .bool _) rfl rfl rfl ?_
  refine asg (v := .bool _) rfl rfl ?_
  refine nl ?_
  refine then_n ?_
  refine cd rfl (fun hc1 => ?_) (fun hc1 => ?_)
  ·refine sq ?_
   refine rg ?_
   refine mv (v := .int .u8 _) rfl rfl ?_
   refine sub rfl rfl (by first | exact w_u8 (by omega) | exact w_u8 (rng_u8 _) | exact m_u8 _) rfl ?_
   refine cvi rfl rfl Tryd.underlying3 (by first | exact w_i64 (by omega) | exact w_i64 (rng_i64 _) | rfl) rfl ?_
   refine asg (v := .int .i64 _) rfl rfl ?_
   refine nl ?_
   refine then_n ?_
   refine rt ?_
   refine in_r ?_
   refine then_r ?_
   refine fin_r ?_
   refine ⟨congrArg (Value.int .i64) ?_, H.fr⟩
   unfold hexN; omega
  ·refine sq ?_
   refine rg ?_
   refine mv (v := .int .u8 _) rfl rfl ?_
   refine geq rfl rfl rfl ?_
   refine mv (v := .bool _) rfl rfl ?_
   refine spd (t := 16) rfl (fun hg2 => ?_) (fun hg2 => ?_)
   ·refine gy rfl ?_
    refine mv (v := .int .u8 _) rfl rfl ?_
    refine gy rfl ?_
    refine leq rfl rfl rfl ?_
    refine pkT (v := .bool _) rfl rfl rfl ?_
    refine asg (v := .bool _) rfl rfl ?_
    refine nl ?_
    refine then_n ?_
    refine cd rfl (fun hc2 => ?_) (fun hc2 => ?_)
    ·refine sq ?_
     refine rg ?_
     refine mv (v := .int .u8 _) rfl rfl ?_
     refine sub rfl rfl (by first | exact w_u8 (by omega) | exact w_u8 (rng_u8 _) | exact m_u8 _) rfl ?_
     refine cvi rfl rfl Tryd.underlying3 (by first | exact w_i64 (by omega) | exact w_i64 (rng_i64 _) | rfl) rfl ?_
     refine add rfl rfl (by first | exact w_i64 (by omega) | exact w_i64 (rng_i64 _) | rfl) rfl ?_
     refine asg (v := .int .i64 _) rfl rfl ?_
     refine nl ?_
     refine then_n ?_
     refine rt ?_
     refine in_r ?_
     refine then_r ?_
     refine fin_r ?_
     refine ⟨congrArg (Value.int .i64) ?_, H.fr⟩
     unfold hexN; omega
    ·refine sq ?_
     refine rg ?_
     refine mv (v := .int .u8 _) rfl rfl ?_
     refine geq rfl rfl rfl ?_
     refine mv (v := .bool _) rfl rfl ?_
     refine spd (t := 27) rfl (fun hg3 => ?_) (fun hg3 => ?_)
     ·refine gy rfl ?_
      refine mv (v := .int .u8 _) rfl rfl ?_
      refine gy rfl ?_
      refine leq rfl rfl rfl ?_
      refine pkT (v := .bool _) rfl rfl rfl ?_
      refine asg (v := .bool _) rfl rfl ?_
      refine nl ?_
      refine then_n ?_
      refine cd rfl (fun hc3 => ?_) (fun hc3 => ?_)
      ·refine sq ?_
       refine rg ?_
       refine mv (v := .int .u8 _) rfl rfl ?_
       refine sub rfl rfl (by first | exact w_u8 (by omega) | exact w_u8 (rng_u8 _) | exact m_u8 _) rfl ?_
       refine cvi rfl rfl Tryd.underlying3 (by first | exact w_i64 (by omega) | exact w_i64 (rng_i64 _) | rfl) rfl ?_
       refine add rfl rfl (by first | exact w_i64 (by omega) | exact w_i64 (rng_i64 _) | rfl) rfl ?_
       refine asg (v := .int .i64 _) rfl rfl ?_
       refine nl ?_
       refine then_n ?_
       refine rt ?_
       refine in_r ?_
       refine then_r ?_
       refine fin_r ?_
       refine ⟨congrArg (Value.int .i64) ?_, H.fr⟩
       unfold hexN; omega
      ·refine sk ?_
       refine in_n ?_
       refine then_n ?_
       refine sq ?_
       refine rg ?_
       refine asg (v := .int .i64 _) rfl rfl ?_
       refine nl ?_
       refine then_n ?_
       refine rt ?_
       refine fin_r ?_
       refine ⟨congrArg (Value.int .i64) ?_, H.fr⟩
       unfold hexN; omega
     ·refine gn rfl rfl ?_
      refine gn rfl rfl ?_
      refine pkF (v := .bool _) rfl rfl rfl ?_
      refine asg (v := .bool _) rfl rfl ?_
      refine nl ?_
      refine then_n ?_
      refine cbF rfl rfl ?_
      refine sk ?_
      refine in_n ?_
      refine then_n ?_
      refine sq ?_
      refine rg ?_
      refine asg (v := .int .i64 _) rfl rfl ?_
      refine nl ?_
      refine then_n ?_
      refine rt ?_
      refine fin_r ?_
      refine ⟨congrArg (Value.int .i64) ?_, H.fr⟩
      unfold hexN; omega
   ·refine gn rfl rfl ?_
    refine gn rfl rfl ?_
    refine pkF (v := .bool _) rfl rfl rfl ?_
    refine asg (v := .bool _) rfl rfl ?_
    refine nl ?_
    refine then_n ?_
    refine cbF rfl rfl ?_
    refine sq ?_
    refine rg ?_
    refine mv (v := .int .u8 _) rfl rfl ?_
    refine geq rfl rfl rfl ?_
    refine mv (v := .bool _) rfl rfl ?_
    refine spd (t := 27) rfl (fun hg4 => ?_) (fun hg4 => ?_)
    ·refine gy rfl ?_
     refine mv (v := .int .u8 _) rfl rfl ?_
     refine gy rfl ?_
     refine leq rfl rfl rfl ?_
     refine pkT (v := .bool _) rfl rfl rfl ?_
     refine asg (v := .bool _) rfl rfl ?_
     refine nl ?_
     refine then_n ?_
     refine cd rfl (fun hc4 => ?_) (fun hc4 => ?_)
     ·refine sq ?_
      refine rg ?_
      refine mv (v := .int .u8 _) rfl rfl ?_
      refine sub rfl rfl (by first | exact w_u8 (by omega) | exact w_u8 (rng_u8 _) | exact m_u8 _) rfl ?_
      refine cvi rfl rfl Tryd.underlying3 (by first | exact w_i64 (by omega) | exact w_i64 (rng_i64 _) | rfl) rfl ?_
      refine add rfl rfl (by first | exact w_i64 (by omega) | exact w_i64 (rng_i64 _) | rfl) rfl ?_
      refine asg (v := .int .i64 _) rfl rfl ?_
      refine nl ?_
      refine then_n ?_
      refine rt ?_
      refine in_r ?_
      refine then_r ?_
      refine fin_r ?_
      refine ⟨congrArg (Value.int .i64) ?_, H.fr⟩
      unfold hexN; omega
     ·refine sk ?_
      refine in_n ?_
      refine then_n ?_
      refine sq ?_
      refine rg ?_
      refine asg (v := .int .i64 _) rfl rfl ?_
      refine nl ?_
      refine then_n ?_
      refine rt ?_
      refine fin_r ?_
      refine ⟨congrArg (Value.int .i64) ?_, H.fr⟩
      unfold hexN; omega
    ·refine gn rfl rfl ?_
     refine gn rfl rfl ?_
     refine pkF (v := .bool _) rfl rfl rfl ?_
     refine asg (v := .bool _) rfl rfl ?_
     refine nl ?_
     refine then_n ?_
     refine cbF rfl rfl ?_
     refine sk ?_
     refine in_n ?_
     refine then_n ?_
     refine sq ?_
     refine rg ?_
     refine asg (v := .int .i64 _) rfl rfl ?_
     refine nl ?_
     refine then_n ?_
     refine rt ?_
     refine fin_r ?_
     refine ⟨congrArg (Value.int .i64) ?_, H.fr⟩
     unfold hexN; omega
 ·refine gn rfl rfl ?_
  refine gn rfl rfl ?_
  refine pkF (v := .bool _) rfl rfl rfl ?_
  refine asg (v := .bool _) rfl rfl ?_
  refine nl ?_
  refine then_n ?_
  refine cbF rfl rfl ?_
  refine sq ?_
  refine rg ?_
  refine mv (v := .int .u8 _) rfl rfl ?_
  refine geq rfl rfl rfl ?_
  refine mv (v := .bool _) rfl rfl ?_
  refine spd (t := 16) rfl (fun hg5 => ?_) (fun hg5 => ?_)
  ·refine gy rfl ?_
   refine mv (v := .int .u8 _) rfl rfl ?_
   refine gy rfl ?_
   refine leq rfl rfl rfl ?_
   refine pkT (v := .bool _) rfl rfl rfl ?_
   refine asg (v := .bool _) rfl rfl ?_
   refine nl ?_
   refine then_n ?_
   refine cd rfl (fun hc5 => ?_) (fun hc5 => ?_)
   ·refine sq ?_
    refine rg ?_
    refine mv (v := .int .u8 _) rfl rfl ?_
    refine sub rfl rfl (by first | exact w_u8 (by omega) | exact w_u8 (rng_u8 _) | exact m_u8 _) rfl ?_
    refine cvi rfl rfl Tryd.underlying3 (by first | exact w_i64 (by omega) | exact w_i64 (rng_i64 _) | rfl) rfl ?_
    refine add rfl rfl (by first | exact w_i64 (by omega) | exact w_i64 (rng_i64 _) | rfl) rfl ?_
    refine asg (v := .int .i64 _) rfl rfl ?_
    refine nl ?_
    refine then_n ?_
    refine rt ?_
    refine in_r ?_
    refine then_r ?_
    refine fin_r ?_
    refine ⟨congrArg (Value.int .i64) ?_, H.fr⟩
    unfold hexN; omega
   ·refine sq ?_
    refine rg ?_
    refine mv (v := .int .u8 _) rfl rfl ?_
    refine geq rfl rfl rfl ?_
    refine mv (v := .bool _) rfl rfl ?_
    refine spd (t := 27) rfl (fun hg6 => ?_) (fun hg6 => ?_)
    ·refine gy rfl ?_
     refine mv (v := .int .u8 _) rfl rfl ?_
     refine gy rfl ?_
     refine leq rfl rfl rfl ?_
     refine pkT (v := .bool _) rfl rfl rfl ?_
     refine asg (v := .bool _) rfl rfl ?_
     refine nl ?_
     refine then_n ?_
     refine cd rfl (fun hc6 => ?_) (fun hc6 => ?_)
     ·refine sq ?_
      refine rg ?_
      refine mv (v := .int .u8 _) rfl rfl ?_
      refine sub rfl rfl (by first | exact w_u8 (by omega) | exact w_u8 (rng_u8 _) | exact m_u8 _) rfl ?_
      refine cvi rfl rfl Tryd.underlying3 (by first | exact w_i64 (by omega) | exact w_i64 (rng_i64 _) | rfl) rfl ?_
      refine add rfl rfl (by first | exact w_i64 (by omega) | exact w_i64 (rng_i64 _) | rfl) rfl ?_
      refine asg (v := .int .i64 _) rfl rfl ?_
      refine nl ?_
      refine then_n ?_
      refine rt ?_
      refine in_r ?_
      refine then_r ?_
      refine fin_r ?_
      refine ⟨congrArg (Value.int .i64) ?_, H.fr⟩
      unfold hexN; omega
     ·refine sk ?_
      refine in_n ?_
      refine then_n ?_
      refine sq ?_
      refine rg ?_
      refine asg (v := .int .i64 _) rfl rfl ?_
      refine nl ?_
      refine then_n ?_
      refine rt ?_
      refine fin_r ?_
      refine ⟨congrArg (Value.int .i64) ?_, H.fr⟩
      unfold hexN; omega
    ·refine gn rfl rfl ?_
     refine gn rfl rfl ?_
     refine pkF (v := .bool _) rfl rfl rfl ?_
     refine asg (v := .bool _) rfl rfl ?_
     refine nl ?_
     refine then_n ?_
     refine cbF rfl rfl ?_
     refine sk ?_
     refine in_n ?_
     refine then_n ?_
     refine sq ?_
     refine rg ?_
     refine asg (v := .int .i64 _) rfl rfl ?_
     refine nl ?_
     refine then_n ?_
     refine rt ?_
     refine fin_r ?_
     refine ⟨congrArg (Value.int .i64) ?_, H.fr⟩
     unfold hexN; omega
  ·refine gn rfl rfl ?_
   refine gn rfl rfl ?_
   refine pkF (v := .bool _) rfl rfl rfl ?_
   refine asg (v := .bool _) rfl rfl ?_
   refine nl ?_
   refine then_n ?_
   refine cbF rfl rfl ?_
   refine sq ?_
   refine rg ?_
   refine mv (v := .int .u8 _) rfl rfl ?_
   refine geq rfl rfl rfl ?_
   refine mv (v := .bool _) rfl rfl ?_
   refine spd (t := 27) rfl (fun hg7 => ?_) (fun hg7 => ?_)
   ·refine gy rfl ?_
    refine mv (v := .int .u8 _) rfl rfl ?_
    refine gy rfl ?_
    refine leq rfl rfl rfl ?_
    refine pkT (v := .bool _) rfl rfl rfl ?_
    refine asg (v := .bool _) rfl rfl ?_
    refine nl ?_
    refine then_n ?_
    refine cd rfl (fun hc7 => ?_) (fun hc7 => ?_)
    ·refine sq ?_
     refine rg ?_
     refine mv (v := .int .u8 _) rfl rfl ?_
     refine sub rfl rfl (by first | exact w_u8 (by omega) | exact w_u8 (rng_u8 _) | exact m_u8 _) rfl ?_
     refine cvi rfl rfl Tryd.underlying3 (by first | exact w_i64 (by omega) | exact w_i64 (rng_i64 _) | rfl) rfl ?_
     refine add rfl rfl (by first | exact w_i64 (by omega) | exact w_i64 (rng_i64 _) | rfl) rfl ?_
     refine asg (v := .int .i64 _) rfl rfl ?_
     refine nl ?_
     refine then_n ?_
     refine rt ?_
     refine in_r ?_
     refine then_r ?_
     refine fin_r ?_
     refine ⟨congrArg (Value.int .i64) ?_, H.fr⟩
     unfold hexN; omega
    ·refine sk ?_
     refine in_n ?_
     refine then_n ?_
     refine sq ?_
     refine rg ?_
     refine asg (v := .int .i64 _) rfl rfl ?_
     refine nl ?_
     refine then_n ?_
     refine rt ?_
     refine fin_r ?_
     refine ⟨congrArg (Value.int .i64) ?_, H.fr⟩
     unfold hexN; omega
   ·refine gn rfl rfl ?_
    refine gn rfl rfl ?_
    refine pkF (v := .bool _) rfl rfl rfl ?_
    refine asg (v := .bool _) rfl rfl ?_
    refine nl ?_
    refine then_n ?_
    refine cbF rfl rfl ?_
    refine sk ?_
    refine in_n ?_
    refine then_n ?_
    refine sq ?_
    refine rg ?_
    refine asg (v := .int .i64 _) rfl rfl ?_
    refine nl ?_
    refine then_n ?_
    refine rt ?_
    refine fin_r ?_
    refine ⟨congrArg (Value.int .i64) ?_, H.fr⟩
    unfold hexN; omega
set_option maxRecDepth 100000 in
set_option maxHeartbeats 1000000 in
theorem c_guidOrder (w : World)  : Calls Tryd.prog 38 #[] w (Ret fun v w' => v = .agg (ordL.map fun (k : Nat) => Value.int .i64 (k : Int)).toArray ∧ Fr [] w w') := by
 refine enterR [.cell 0 77] Tryd.func38 rfl rfl rfl rfl ?_
 have H := SH.nil w
 refine sq ?_
 refine rg ?_
 refine al H ze77 rfl ?_
 clear H; intro b1 w1 hb1 H _
 refine nl ?_
 refine then_n ?_
 refine sq ?_
 refine rg ?_
 refine bu (out := ?o1) ze77 bo77 ?f1 rfl ?_
 case f1 =>
  refine FL.one (v := .int .i64 _) rfl pl77_0 rfl (by first | decide | simp) ?_
  refine FL.one (v := .int .i64 _) rfl pl77_1 rfl (by first | decide | simp) ?_
  refine FL.one (v := .int .i64 _) rfl pl77_2 rfl (by first | decide | simp) ?_
  refine FL.one (v := .int .i64 _) rfl pl77_3 rfl (by first | decide | simp) ?_
  refine FL.one (v := .int .i64 _) rfl pl77_4 rfl (by first | decide | simp) ?_
  refine FL.one (v := .int .i64 _) rfl pl77_5 rfl (by first | decide | simp) ?_
  refine FL.one (v := .int .i64 _) rfl pl77_6 rfl (by first | decide | simp) ?_
  refine FL.one (v := .int .i64 _) rfl pl77_7 rfl (by first | decide | simp) ?_
  refine FL.one (v := .int .i64 _) rfl pl77_8 rfl (by first | decide | simp) ?_
  refine FL.one (v := .int .i64 _) rfl pl77_9 rfl (by first | decide | simp) ?_
  refine FL.one (v := .int .i64 _) rfl pl77_10 rfl (by first | decide | simp) ?_
  refine FL.one (v := .int .i64 _) rfl pl77_11 rfl (by first | decide | simp) ?_
  refine FL.one (v := .int .i64 _) rfl pl77_12 rfl (by first | decide | simp) ?_
  refine FL.one (v := .int .i64 _) rfl pl77_13 rfl (by first | decide | simp) ?_
  refine FL.one (v := .int .i64 _) rfl pl77_14 rfl (by first | decide | simp) ?_
  refine FL.one (v := .int .i64 _) rfl pl77_15 rfl (by first | decide | simp) ?_
  exact FL.nil
 refine sa H rfl rfl ag77_16 rfl rfl (by decide) (by omega) rfl ?_
 clear H; intro w2 H _
 refine nl ?_
 refine then_n ?_
 refine rt ?_
 refine finR_r ?_
 exact ⟨[_], ⟨finC rfl (H.look (b := b1)) ag77_16, trivial⟩, rfl, H.fr⟩
end Go.Proofs.YthcaejaaalkglaaDoor.X
/- Walks of functions, printed by a program of this claim. -/
namespace Go.Proofs.YthcaejaaalkglaaDoor.X
set_option linter.unusedVariables false
set_option linter.unusedSimpArgs false
open Go Go.RowKit
namespace PF
theorem ag45_16 : aggB Tryd.prog 45 16 = true := by kernel_rfl
theorem bo45 : buildOK Tryd.prog 45 = true := by kernel_rfl
theorem ca21 : callable Tryd.prog 21 = true := by kernel_rfl
theorem ca38 : callable Tryd.prog 38 = true := by kernel_rfl
theorem ca39 : callable Tryd.prog 39 = true := by kernel_rfl
theorem eg45 : Tryd.prog.eqGuardType Tryd.prog.depth 45 = false := by kernel_rfl
theorem ri5 : rowInfo Tryd.prog 5 = some ([.int .u8 0], 1) := by kernel_rfl
theorem sc3 : scalarB Tryd.prog 3 = true := by kernel_rfl
theorem sz3_1 : sizeB Tryd.prog 3 1 = true := by kernel_rfl
theorem ze45 : zeroL Tryd.prog 45 = some [.int .u8 0, .int .u8 0, .int .u8 0, .int .u8 0, .int .u8 0, .int .u8 0, .int .u8 0, .int .u8 0, .int .u8 0, .int .u8 0, .int .u8 0, .int .u8 0, .int .u8 0, .int .u8 0, .int .u8 0, .int .u8 0] := by kernel_rfl
theorem ze5 : zeroL Tryd.prog 5 = some [.int .u8 0] := by kernel_rfl
end PF
open PF
set_option maxRecDepth 100000 in
set_option maxHeartbeats 1000000 in
theorem c_guidBytes (w : World) (s : List UInt8) : Calls Tryd.prog 21 #[.string (str s)] w (Ret fun v w' => v = .tuple #[.agg (Bs (gB s)).toArray, .bool (gOk s)] ∧ Fr [] w w') := by
 refine enterR [.cell 2 45, .tmp 3] Tryd.func21 rfl rfl rfl rfl ?_
 have H := SH.nil w
 have hsz := size_str s
 refine sq ?_
 refine rg ?_
 refine al H ze45 rfl ?_
 clear H; intro b1 w1 hb1 H _
 refine asg (v := .bool _) rfl rfl ?_
 refine nl ?_
 refine then_n ?_
 refine sq ?_
 refine sq ?_
 refine rg ?_
 refine mv (v := .string _) rfl rfl ?_
 refine lnT rfl Tryd.underlying9 rfl ?_
 refine neq rfl rfl rfl ?_
 refine nl ?_
 refine then_n ?_
 refine cd rfl (fun hc1 => ?_) (fun hc1 => ?_)
 ·refine sq ?_
  refine rg ?_
  refine la (vs := Bs (List.replicate 16 0)) H rfl ag45_16 rfl rfl rfl ?_
  refine sa (cs' := Bs (List.replicate 16 0)) H rfl rfl ag45_16 rfl rfl (by decide) (by omega) rfl ?_
  clear H; intro w91 H _
  refine asg (v := .bool _) rfl rfl ?_
  refine nl ?_
  refine then_n ?_
  refine rt ?_
  refine then_r ?_
  refine finR_r ?_
  rw [gOk_len (by omega), gB_not (gOk_len (by omega))]
  exact ⟨[_, _], ⟨finC rfl (H.look (b := b1)) ag45_16, rfl, trivial⟩, rfl, H.fr⟩
 ·have hsl : s.length = 36 := by omega
  refine sk ?_
  refine then_n ?_
  refine sq ?_
  refine rg ?_
  refine cl ca38 (c_guidOrder _) rfl ?_
  rintro _ w2 ⟨rfl, F⟩
  replace H := H.keep F; clear F
  refine al H ze77 rfl ?_
  clear H; intro b2 w3 hb2 H _
  refine sa (cs' := (ordL.map fun (k : Nat) => Value.int .i64 (k : Int))) H rfl rfl ag77_16 rfl rfl (by decide) (by omega) rfl ?_
  clear H; intro w92 H _
  refine nl ?_
  refine then_n ?_
  refine sq ?_
  refine rg ?_
  refine asg (v := .int .i64 _) rfl rfl ?_
  refine nl ?_
  refine then_n ?_
  refine sq ?_
  refine sq ?_
  refine rg ?_
  refine asg (v := .int .i64 _) rfl rfl ?_
  refine nl ?_
  refine then_n ?_
  refine bk ?_
  refine lpM (α := Nat) [3, 5, 6, 7, 13, 14, 15, 16, 17, 18, 19, 20, 21, 22, 23, 24, 25, 26, 27, 28, 29, 30, 31, 32, 33, 34, 35, 36, 37, 38, 39, 40, 41, 42, 43, 44, 45, 46, 47, 48, 49, 50, 51, 52, 53, 54, 55, 56, 57, 58, 59] (fun i => [(5, .int .i64 (cntH i : Int)), (6, .int .i64 (i : Int))]) (fun i w' => i ≤ 36 ∧ (∀ j, j < i → okAt s j = true) ∧ SH w [] w' [⟨b2, .cells (ordL.map fun (k : Nat) => Value.int .i64 (k : Int)).toArray 77 (0, 0), true⟩, ⟨b1, .cells (Bs (gPart s (i))).toArray 45 (0, 0), true⟩]) (fun i => 36 - i) 0 ?_ (fCX (fCX (fN _))) ?_
  ·exact ⟨by omega, fun j hj => by omega, H⟩
  ·rintro i ρx w4 ⟨hi, hok, H⟩
   have hgl := gPart_len s i
   refine sq ?_
   refine sq ?_
   refine rg ?_
   refine mv (v := .int .i64 _) rfl rfl ?_
   refine lss rfl rfl rfl ?_
   refine nl ?_
   refine then_n ?_
   refine cd rfl (fun hc2 => ?_) (fun hc2 => ?_)
   ·refine sk ?_
    refine then_n ?_
    refine sq ?_
    refine bk ?_
    refine sq ?_
    refine ctM (α := Bool) [17, 18, 19, 20, 21, 22, 23, 24, 25, 26, 27, 28, 29, 30] (fun u => [(30, .bool u)]) (fun u w' => u = dashB i ∧ SH w [] w' [⟨b2, .cells (ordL.map fun (k : Nat) => Value.int .i64 (k : Int)).toArray 77 (0, 0), true⟩, ⟨b1, .cells (Bs (gPart s (i))).toArray 45 (0, 0), true⟩]) ?_ ?_
    ·refine rg ?_
     refine mv (v := .int .i64 _) rfl rfl ?_
     refine eql rfl rfl rfl ?_
     refine mv (v := .bool _) rfl rfl ?_
     refine spd (t := 19) rfl (fun hg1 => ?_) (fun hg1 => ?_)
     ·refine gn rfl rfl ?_
      refine gn rfl rfl ?_
      refine pkT (v := .bool _) rfl rfl rfl ?_
      refine mv (v := .bool _) rfl rfl ?_
      refine gn rfl rfl ?_
      refine gn rfl rfl ?_
      refine pkT (v := .bool _) rfl rfl rfl ?_
      refine mv (v := .bool _) rfl rfl ?_
      refine gn rfl rfl ?_
      refine gn rfl rfl ?_
      refine pkT (v := .bool _) rfl rfl rfl ?_
      refine nl ?_
      refine then_n ?_
      exact ⟨true, ⟨dash_t (by omega), H⟩, (fCX (fN _)), agX⟩
     ·refine gy rfl ?_
      refine mv (v := .int .i64 _) rfl rfl ?_
      refine gy rfl ?_
      refine eql rfl rfl rfl ?_
      refine pkF (v := .bool _) rfl rfl rfl ?_
      refine mv (v := .bool _) rfl rfl ?_
      refine spd (t := 23) rfl (fun hg2 => ?_) (fun hg2 => ?_)
      ·refine gn rfl rfl ?_
       refine gn rfl rfl ?_
       refine pkT (v := .bool _) rfl rfl rfl ?_
       refine mv (v := .bool _) rfl rfl ?_
       refine gn rfl rfl ?_
       refine gn rfl rfl ?_
       refine pkT (v := .bool _) rfl rfl rfl ?_
       refine nl ?_
       refine then_n ?_
       exact ⟨true, ⟨dash_t (by omega), H⟩, (fCX (fN _)), agX⟩
      ·refine gy rfl ?_
       refine mv (v := .int .i64 _) rfl rfl ?_
       refine gy rfl ?_
       refine eql rfl rfl rfl ?_
       refine pkF (v := .bool _) rfl rfl rfl ?_
       refine mv (v := .bool _) rfl rfl ?_
       refine spd (t := 27) rfl (fun hg3 => ?_) (fun hg3 => ?_)
       ·refine gn rfl rfl ?_
        refine gn rfl rfl ?_
        refine pkT (v := .bool _) rfl rfl rfl ?_
        refine nl ?_
        refine then_n ?_
        exact ⟨true, ⟨dash_t (by omega), H⟩, (fCX (fN _)), agX⟩
       ·refine gy rfl ?_
        refine mv (v := .int .i64 _) rfl rfl ?_
        refine gy rfl ?_
        refine eql rfl rfl rfl ?_
        refine pkF (v := .bool _) rfl rfl rfl ?_
        refine nl ?_
        refine then_n ?_
        exact ⟨_, ⟨dash_d hg1 hg2 hg3, H⟩, (fCX (fN _)), agX⟩
    ·rintro u ρx w5 ⟨hu, H⟩
     refine cn rfl (fun hc3 => ?_) (fun hc3 => ?_)
     ·have hd : dashB i = true := hu.symm.trans hc3
      have hcd := cntH_dash hd
      refine sq ?_
      refine sq ?_
      refine rg ?_
      refine mv (v := .string _) rfl rfl ?_
      refine mv (v := .int .i64 _) rfl rfl ?_
      refine ixS rfl rfl Tryd.underlying9 (by first | omega | (constructor <;> simp <;> omega)) rfl ?_; intro hu1
      refine neq rfl rfl rfl ?_
      refine nl ?_
      refine then_n ?_
      refine cd rfl (fun hc4 => ?_) (fun hc4 => ?_)
      ·have hgk := gOk_not (by omega) (okAt_dash_f hd hc4)
       refine sq ?_
       refine rg ?_
       refine bu (out := ?o2) ze45 bo45 ?f2 rfl ?_
       case f2 =>
        exact FL.nil
       refine sa (cs' := Bs (List.replicate 16 0)) H rfl rfl ag45_16 rfl rfl (by show 0 + 16 ≤ 16; decide) (by omega) rfl ?_
       clear H; intro w95 H _
       refine asg (v := .bool _) rfl rfl ?_
       refine nl ?_
       refine then_n ?_
       refine rt ?_
       refine then_r ?_
       refine then_r ?_
       refine in_r ?_
       refine then_r ?_
       refine loop_r ?_
       refine in_r ?_
       refine then_r ?_
       refine finR_r ?_
       rw [hgk, gB_not hgk]
       exact ⟨[_, _], ⟨finC rfl (H.look (b := b1)) ag45_16, rfl, trivial⟩, rfl, H.fr⟩
      ·have hoi := okAt_dash hd (by simpa using hc4)
       refine sk ?_
       refine then_n ?_
       refine ex ?_
       refine then_e ?_
       refine in_hit rfl ?_
       refine then_n ?_
       refine rg ?_
       refine mv (v := .int .i64 _) rfl rfl ?_
       refine add rfl rfl (by first | exact w_i64 (by omega) | exact w_i64 (rng_i64 _) | rfl) rfl ?_
       refine asg (v := .int .i64 _) rfl rfl ?_
       refine nl ?_
       refine loop_n ?_
       exact ⟨i + 1, (by (try dsimp only); omega), ⟨by omega, okAt_next hok hoi, by rw [gPart_dash hd]; exact H⟩, (fCX (fCX (fN _))), agX⟩
     ·have hd : dashB i = false := hu.symm.trans hc3
      have hol := ord_lt i (by omega) hd
      have hcn := cntH_hex i (by omega) hd
      refine sk ?_
      refine then_n ?_
      refine sq ?_
      refine rg ?_
      refine mv (v := .string _) rfl rfl ?_
      refine mv (v := .int .i64 _) rfl rfl ?_
      refine ixS rfl rfl Tryd.underlying9 (by first | omega | (constructor <;> simp <;> omega)) rfl ?_; intro hu3
      refine cl ca39 (c_hexOf _ _ (by omega)) rfl ?_
      rintro _ w6 ⟨rfl, F⟩
      replace H := H.keep F; clear F
      refine asgN (v' := .int .i64 (nib s i)) rfl rfl rfl ?_
      refine nl ?_
      refine then_n ?_
      refine sq ?_
      refine sq ?_
      refine rg ?_
      refine mv (v := .int .i64 _) rfl rfl ?_
      refine lss rfl rfl rfl ?_
      refine nl ?_
      refine then_n ?_
      refine cd rfl (fun hc5 => ?_) (fun hc5 => ?_)
      ·have hgk := gOk_not (by omega) (okAt_hex_f hd hc5)
       refine sq ?_
       refine rg ?_
       refine bu (out := ?o4) ze45 bo45 ?f4 rfl ?_
       case f4 =>
        exact FL.nil
       refine sa (cs' := Bs (List.replicate 16 0)) H rfl rfl ag45_16 rfl rfl (by show 0 + 16 ≤ 16; decide) (by omega) rfl ?_
       clear H; intro w95 H _
       refine asg (v := .bool _) rfl rfl ?_
       refine nl ?_
       refine then_n ?_
       refine rt ?_
       refine then_r ?_
       refine in_r ?_
       refine then_r ?_
       refine loop_r ?_
       refine in_r ?_
       refine then_r ?_
       refine finR_r ?_
       rw [hgk, gB_not hgk]
       exact ⟨[_, _], ⟨finC rfl (H.look (b := b1)) ag45_16, rfl, trivial⟩, rfl, H.fr⟩
      ·have hoi := okAt_hex hd hc5
       have hnr : 0 ≤ nib s i ∧ nib s i ≤ 15 := ⟨by omega, (hexN_rng _).2⟩
       refine sk ?_
       refine then_n ?_
       refine sq ?_
       refine dr (by kernel_rfl) ?_
       have H := H.drew
       refine hold (fun _ => True) [] ?_
       refine tk (i := 0) rfl (by kernel_rfl) rfl trivial (fun _ _ => r_mv (v := .int .i64 _) rfl) ?_
       refine tk (i := 1) rfl (by kernel_rfl) rfl trivial (fun _ _ => r_quo rfl rfl (by omega) (by omega) (by first | exact w_i64 (by omega) | exact w_i64 (rng_i64 _) | rfl)) ?_
       refine tk (i := 2) rfl (by kernel_rfl) rfl trivial (fun _ _ => r_iyN (cntH i / 2) rfl rfl Tryd.underlying77 sz3_1 (by omega) (by omega)) ?_
       refine tk (i := 4) rfl (by kernel_rfl) rfl trivial (fun _ _ => r_mv (v := .int .i64 _) rfl) ?_
       refine tk (i := 5) rfl (by kernel_rfl) rfl trivial (fun _ _ => r_quo rfl rfl (by omega) (by omega) (by first | exact w_i64 (by omega) | exact w_i64 (rng_i64 _) | rfl)) ?_
       refine tk (i := 6) rfl (by kernel_rfl) rfl trivial (fun _ _ => r_iyN (cntH i / 2) rfl rfl Tryd.underlying77 sz3_1 (by omega) (by omega)) ?_
       refine tk (i := 11) rfl (by kernel_rfl) rfl trivial (fun _ _ => r_mv (v := .int .i64 _) rfl) ?_
       refine tk (i := 12) rfl (by kernel_rfl) rfl trivial (fun _ _ => r_cvi rfl rfl Tryd.underlying5 (by first | exact w_u8 (by omega) | exact w_u8 (rng_u8 _) | exact m_u8 _)) ?_
       refine unfree ?_
       refine holdH H [15] ?_
       refine tk (i := 3) rfl (by kernel_rfl) rfl H (fun w' H => r_ld (v := .int .i64 ((ordL.getD (cntH i / 2) 0 : Nat) : Int)) H rfl sc3 (ord_get (by omega))) ?_
       refine tk (i := 7) rfl (by kernel_rfl) rfl H (fun w' H => r_ld (v := .int .i64 ((ordL.getD (cntH i / 2) 0 : Nat) : Int)) H rfl sc3 (ord_get (by omega))) ?_
       refine tk (i := 8) rfl (by kernel_rfl) rfl H (fun w' H => r_iyN (ordL.getD (cntH i / 2) 0) rfl rfl Tryd.underlying45 sz5_1 (by omega) (by omega)) ?_
       refine tk (i := 9) rfl (by kernel_rfl) rfl H (fun w' H => r_ldb H rfl sc5 (by omega)) ?_
       refine tk (i := 10) rfl (by kernel_rfl) rfl H (fun w' H => r_shlK (s := 4) (p := 16) rfl rfl (by decide) (by decide) (by first | exact w_u8 (by omega) | exact w_u8 (rng_u8 _) | exact m_u8 _)) ?_
       refine tk (i := 13) rfl (by kernel_rfl) rfl H (fun w' H => r_bor (c := (((gPart s i).getD (ordL.getD (cntH i / 2) 0) 0).toNat : Int) * 16 % 256 + nib s i) rfl rfl (or_nib ⟨by omega, u8_lt _⟩ hnr)) ?_
       refine tk (i := 14) rfl (by kernel_rfl) rfl H (fun w' H => r_iyN (ordL.getD (cntH i / 2) 0) rfl rfl Tryd.underlying45 sz5_1 (by omega) (by omega)) ?_
       refine fb (i := 15) (by kernel_rfl) rfl rfl rfl ?_
       refine stb H rfl rfl sc5 (by have := u8_lt ((gPart s i).getD (ordL.getD (cntH i / 2) 0) 0); omega) (by rw [gPart_len]; exact hol) (by omega) ?_
       clear H; intro w93 H _
       refine nl ?_
       refine then_n ?_
       refine dn (by kernel_rfl) ?_
       refine then_n ?_
       refine rg ?_
       refine mv (v := .int .i64 _) rfl rfl ?_
       refine add rfl rfl (by first | exact w_i64 (by omega) | exact w_i64 (rng_i64 _) | rfl) rfl ?_
       refine asg (v := .int .i64 _) rfl rfl ?_
       refine nl ?_
       refine in_n ?_
       refine then_n ?_
       refine rg ?_
       refine mv (v := .int .i64 _) rfl rfl ?_
       refine add rfl rfl (by first | exact w_i64 (by omega) | exact w_i64 (rng_i64 _) | rfl) rfl ?_
       refine asg (v := .int .i64 _) rfl rfl ?_
       refine nl ?_
       refine loop_n ?_
       exact ⟨i + 1, (by (try dsimp only); omega), ⟨by omega, okAt_next hok hoi, sh_cells1 H (congrArg Bs (gPart_step (by omega) hd (okAt_next hok hoi)))⟩, (fCX (fCX (fN _))), agX⟩
   ·refine ex ?_
    refine then_e ?_
    refine loop_e ?_
    refine in_hit rfl ?_
    refine then_n ?_
    refine sq ?_
    refine rg ?_
    refine la (vs := Bs (gPart s i)) H rfl ag45_16 rfl rfl rfl ?_
    refine sa (cs' := Bs (gPart s i)) H rfl rfl ag45_16 rfl rfl (by show 0 + 16 ≤ 16; decide) (by omega) rfl ?_
    clear H; intro w94 H _
    refine asg (v := .bool _) rfl rfl ?_
    refine nl ?_
    refine then_n ?_
    refine rt ?_
    refine finR_r ?_
    obtain rfl : i = 36 := by omega
    have hgk := gOk_of hsl hok
    rw [hgk, gB_ok hgk]
    exact ⟨[_, _], ⟨finC rfl (H.look (b := b1)) ag45_16, rfl, trivial⟩, rfl, H.fr⟩
set_option maxRecDepth 100000 in
set_option maxHeartbeats 1000000 in
theorem c_sameGuid (w : World) (a b : List UInt8) : Calls Tryd.prog 22 #[.string (str a), .string (str b)] w (Ret fun v w' => v = .bool (sameG a b) ∧ Fr [] w w') := by
 refine enter (fun ρ => ρ 4) Tryd.func22 rfl rfl rfl (res1 rfl) ?_
 have H := SH.nil w
 refine sq ?_
 refine rg ?_
 refine asg (v := .bool _) rfl rfl ?_
 refine nl ?_
 refine then_n ?_
 refine sq ?_
 refine rg ?_
 refine mv (v := .string _) rfl rfl ?_
 refine cl ca21 (c_guidBytes _ _) rfl ?_
 rintro _ w1 ⟨rfl, F⟩
 replace H := H.keep F; clear F
 refine mv (v := .tuple _) rfl rfl ?_
 refine xt rfl rfl rfl ?_
 refine xt rfl rfl rfl ?_
 refine al H ze45 rfl ?_
 clear H; intro b1 w2 hb1 H _
 refine sa (cs' := Bs (gB a)) H rfl rfl ag45_16 (by rw [Bs_length, gB_len]) (List.all_eq_true.2 Bs_one) (by decide) (by omega) (List.append_nil _) ?_
 clear H; intro w91 H _
 refine asg (v := .bool _) rfl rfl ?_
 refine nl ?_
 refine then_n ?_
 refine sq ?_
 refine rg ?_
 refine mv (v := .string _) rfl rfl ?_
 refine cl ca21 (c_guidBytes _ _) rfl ?_
 rintro _ w3 ⟨rfl, F⟩
 replace H := H.keep F; clear F
 refine mv (v := .tuple _) rfl rfl ?_
 refine xt rfl rfl rfl ?_
 refine xt rfl rfl rfl ?_
 refine al H ze45 rfl ?_
 clear H; intro b2 w4 hb2 H _
 refine sa (cs' := Bs (gB b)) H rfl rfl ag45_16 (by rw [Bs_length, gB_len]) (List.all_eq_true.2 Bs_one) (by decide) (by omega) (List.append_nil _) ?_
 clear H; intro w92 H _
 refine asg (v := .bool _) rfl rfl ?_
 refine nl ?_
 refine then_n ?_
 refine sq ?_
 refine rg ?_
 refine mv (v := .bool _) rfl rfl ?_
 refine mv (v := .bool _) rfl rfl ?_
 refine sp (t := 20) rfl (fun hg1 => ?_) (fun hg1 => ?_)
 ·refine gy rfl ?_
  refine mv (v := .bool _) rfl rfl ?_
  refine pkT (v := .bool _) rfl rfl rfl ?_
  refine mv (v := .bool _) rfl rfl ?_
  refine sp (t := 23) rfl (fun hg2 => ?_) (fun hg2 => ?_)
  ·refine gy rfl ?_
   refine la (vs := Bs (gB a)) H rfl ag45_16 (by rw [Bs_length, gB_len]) (by rw [List.drop_zero, List.take_of_length_le (by rw [Bs_length, gB_len]; decide)]) rfl ?_
   refine gy rfl ?_
   refine la (vs := Bs (gB b)) H rfl ag45_16 (by rw [Bs_length, gB_len]) (by rw [List.drop_zero, List.take_of_length_le (by rw [Bs_length, gB_len]; decide)]) rfl ?_
   refine gy rfl ?_
   refine eqlBs (xs := gB a) (ys := gB b) rfl rfl eg45 Tryd.underlying45 Tryd.underlying5 sz5_1 sc5 (gB_len _) (gB_len _) rfl ?_
   refine pkT (v := .bool _) rfl rfl rfl ?_
   refine asg (v := .bool _) rfl rfl ?_
   refine nl ?_
   refine then_n ?_
   refine rt ?_
   refine fin_r ?_
   exact ⟨congrArg Value.bool (by unfold sameG; rw [hg1, hg2]; rfl), H.fr⟩
  ·refine gn rfl rfl ?_
   refine gn rfl rfl ?_
   refine gn rfl rfl ?_
   refine pkF (v := .bool _) rfl rfl rfl ?_
   refine asg (v := .bool _) rfl rfl ?_
   refine nl ?_
   refine then_n ?_
   refine rt ?_
   refine fin_r ?_
   exact ⟨congrArg Value.bool (by unfold sameG; rw [hg1, hg2]; rfl), H.fr⟩
 ·refine gn rfl rfl ?_
  refine pkF (v := .bool _) rfl rfl rfl ?_
  refine mv (v := .bool _) rfl rfl ?_
  refine gn rfl rfl ?_
  refine gn rfl rfl ?_
  refine gn rfl rfl ?_
  refine pkF (v := .bool _) rfl rfl rfl ?_
  refine asg (v := .bool _) rfl rfl ?_
  refine nl ?_
  refine then_n ?_
  refine rt ?_
  refine fin_r ?_
  exact ⟨congrArg Value.bool (by unfold sameG; rw [hg1]; rfl), H.fr⟩
set_option maxRecDepth 100000 in
set_option maxHeartbeats 1000000 in
theorem c_guidText (w : World) (B : Option Addr) (n c : Nat) (b : List UInt8) (hb : RB w B n b) (hn : n = 16) : Calls Tryd.prog 33 #[.slice B n c] w (Ret fun v w' => v = .string (str (gT b)) ∧ Fr [] w w') := by
 refine enter (fun ρ => ρ 2) Tryd.func33 rfl rfl rfl (res1 rfl) ?_
 have H := SH.nil w
 have hbl := hb.1
 refine sq ?_
 refine rg ?_
 refine asg (v := .string _) rfl rfl ?_
 refine nl ?_
 refine then_n ?_
 refine sq ?_
 refine rg ?_
 refine asg (v := .string _) rfl rfl ?_
 refine nl ?_
 refine then_n ?_
 refine sq ?_
 refine rg ?_
 refine cl ca38 (c_guidOrder _) rfl ?_
 rintro _ w1 ⟨rfl, F⟩
 replace H := H.keep F; clear F
 refine al H ze77 rfl ?_
 clear H; intro b1 w2 hb1 H _
 refine sa (cs' := (ordL.map fun (k : Nat) => Value.int .i64 (k : Int))) H rfl rfl ag77_16 rfl rfl (by decide) (by omega) rfl ?_
 clear H; intro w92 H _
 refine nl ?_
 refine then_n ?_
 refine sq ?_
 refine rg ?_
 refine asg (v := .slice _ _ _) rfl rfl ?_
 refine nl ?_
 refine then_n ?_
 refine sq ?_
 refine sq ?_
 refine rg ?_
 refine mv (v := .int .i64 _) rfl rfl ?_
 refine nl ?_
 refine then_n ?_
 refine bk ?_
 refine lpM (α := Nat × Option Addr × Nat × Nat) [5, 6, 7, 9, 10, 11, 12, 13, 14, 15, 16, 17, 18, 19, 20, 21, 22, 23, 24, 25, 26, 27, 28, 29, 30, 31, 32, 33, 34, 35, 36, 37, 38, 39, 40, 41, 42, 43, 44, 45, 46] (fun (i, D, k, cap) => [(5, .slice D k cap), (9, .int .i64 (i : Int))]) (fun (i, D, k, cap) w' => i ≤ 16 ∧ k ≤ 3 * i ∧ OR 5 1 w [] w' [⟨b1, .cells (ordL.map fun (k : Nat) => Value.int .i64 (k : Int)).toArray 77 (0, 0), true⟩] D k cap (Bs (gTp b i))) (fun (i, D, k, cap) => 16 - i) (0, none, 0, 0) ?_ (fCX (fCX (fN _))) ?_
 ·exact ⟨by omega, by omega, OR.nil H⟩
 ·rintro ⟨i, D, k, cap⟩ ρx w3 ⟨hi, hk, O⟩
  have H := O.sh
  refine sq ?_
  refine rg ?_
  refine lss rfl rfl rfl ?_
  refine nl ?_
  refine then_n ?_
  refine sq ?_
  refine cd rfl (fun hc1 => ?_) (fun hc1 => ?_)
  ·refine sk ?_
   refine then_n ?_
   refine sq ?_
   refine bk ?_
   refine sq ?_
   refine rg ?_
   refine mv (v := .int .i64 _) rfl rfl ?_
   refine asg (v := .int .i64 _) rfl rfl ?_
   refine nl ?_
   refine then_n ?_
   refine ctM (α := Option Addr × Nat × Nat) [5, 12, 13, 14, 15, 16, 17, 18, 19, 20, 21, 22, 23, 24, 25, 26, 27, 28] (fun (D, k, cap) => [(5, .slice D k cap)]) (fun (D, k, cap) w' => k ≤ 3 * i + 1 ∧ OR 5 1 w [] w' [⟨b1, .cells (ordL.map fun (k : Nat) => Value.int .i64 (k : Int)).toArray 77 (0, 0), true⟩] D k cap (Bs (gTp b i ++ if dashT i then [45] else []))) ?_ ?_
   ·refine ctM (α := Bool) [12, 13, 14, 15, 16, 17, 18, 19, 20, 21, 22, 23, 24, 25] (fun u => [(25, .bool u)]) (fun u w' => u = dashT i ∧ OR 5 1 w [] w' [⟨b1, .cells (ordL.map fun (k : Nat) => Value.int .i64 (k : Int)).toArray 77 (0, 0), true⟩] D k cap (Bs (gTp b i))) ?_ ?_
    ·refine rg ?_
     refine mv (v := .int .i64 _) rfl rfl ?_
     refine eql rfl rfl rfl ?_
     refine mv (v := .bool _) rfl rfl ?_
     refine spd (t := 14) rfl (fun hg1 => ?_) (fun hg1 => ?_)
     ·refine gn rfl rfl ?_
      refine gn rfl rfl ?_
      refine pkT (v := .bool _) rfl rfl rfl ?_
      refine mv (v := .bool _) rfl rfl ?_
      refine gn rfl rfl ?_
      refine gn rfl rfl ?_
      refine pkT (v := .bool _) rfl rfl rfl ?_
      refine mv (v := .bool _) rfl rfl ?_
      refine gn rfl rfl ?_
      refine gn rfl rfl ?_
      refine pkT (v := .bool _) rfl rfl rfl ?_
      refine nl ?_
      refine then_n ?_
      exact ⟨true, ⟨dashT_t (by omega), O⟩, (fCX (fN _)), agX⟩
     ·refine gy rfl ?_
      refine mv (v := .int .i64 _) rfl rfl ?_
      refine gy rfl ?_
      refine eql rfl rfl rfl ?_
      refine pkF (v := .bool _) rfl rfl rfl ?_
      refine mv (v := .bool _) rfl rfl ?_
      refine spd (t := 18) rfl (fun hg2 => ?_) (fun hg2 => ?_)
      ·refine gn rfl rfl ?_
       refine gn rfl rfl ?_
       refine pkT (v := .bool _) rfl rfl rfl ?_
       refine mv (v := .bool _) rfl rfl ?_
       refine gn rfl rfl ?_
       refine gn rfl rfl ?_
       refine pkT (v := .bool _) rfl rfl rfl ?_
       refine nl ?_
       refine then_n ?_
       exact ⟨true, ⟨dashT_t (by omega), O⟩, (fCX (fN _)), agX⟩
      ·refine gy rfl ?_
       refine mv (v := .int .i64 _) rfl rfl ?_
       refine gy rfl ?_
       refine eql rfl rfl rfl ?_
       refine pkF (v := .bool _) rfl rfl rfl ?_
       refine mv (v := .bool _) rfl rfl ?_
       refine spd (t := 22) rfl (fun hg3 => ?_) (fun hg3 => ?_)
       ·refine gn rfl rfl ?_
        refine gn rfl rfl ?_
        refine pkT (v := .bool _) rfl rfl rfl ?_
        refine nl ?_
        refine then_n ?_
        exact ⟨true, ⟨dashT_t (by omega), O⟩, (fCX (fN _)), agX⟩
       ·refine gy rfl ?_
        refine mv (v := .int .i64 _) rfl rfl ?_
        refine gy rfl ?_
        refine eql rfl rfl rfl ?_
        refine pkF (v := .bool _) rfl rfl rfl ?_
        refine nl ?_
        refine then_n ?_
        exact ⟨_, ⟨dashT_d hg1 hg2 hg3, O⟩, (fCX (fN _)), agX⟩
    ·rintro u ρx w4 ⟨hu, O⟩
     have H := O.sh
     refine cn rfl (fun hc2 => ?_) (fun hc2 => ?_)
     ·refine rg ?_
      refine mv (v := .slice _ _ _) rfl rfl ?_
      refine bsl (sz := 1) (out := ?o1) H Tryd.underlying30 ze5 sz5_1 (by decide) ?f1 rfl ?_
      case f1 =>
       refine FS.one (v := .int .u8 _) rfl rfl rfl (by first | decide | simp) ?_
       exact FS.nil
      intro b2 w5 hb2 H1 F; replace O := O.new F hb2 H1.look; clear H H1 F; have H := O.sh
      refine apO (zs := [.int .u8 0]) (Bs ([45])) O rfl rfl Tryd.underlying30 ri5 (by first | rfl | simp) (cells_look H.look) Bs_one (by simp) (by omega) (by unfold maxLen; omega) rfl ?_
      clear O H; intro D9 cp9 w6 O
      have H := O.sh
      refine asg (v := .slice _ _ _) rfl rfl ?_
      refine nl ?_
      refine then_n ?_
      exact ⟨(D9, k + 1, cp9), ⟨by omega, by rw [← hu, hc2]; exact Bs_app _ _ ▸ O.subX⟩, (fCX (fN _)), agX⟩
     ·refine sk ?_
      refine then_n ?_
      exact ⟨(D, k, cap), ⟨by omega, by rw [← hu, hc2]; simpa using O⟩, (fCX (fN _)), agX⟩
   ·rintro ⟨D, k, cap⟩ ρx w7 ⟨hk2, O⟩
    have H := O.sh
    have hol := ord_lt16 i (by omega)
    obtain ⟨ad, rfl, hcell⟩ := hb.2 (ordL.getD i 0) (by omega)
    have hcell := H.fr.cell hcell (by simp)
    have hcu := UInt8.toNat_lt (b.getD (ordL.getD i 0) 0)
    refine sq ?_
    refine rg ?_
    refine mv (v := .slice _ _ _) rfl rfl ?_
    refine mv (v := .int .i64 _) rfl rfl ?_
    refine iyN (i) rfl rfl Tryd.underlying77 sz3_1 (by omega) (by omega) rfl ?_
    refine ld (v := .int .i64 ((ordL.getD i 0 : Nat) : Int)) H rfl sc3 (ord_get (by omega)) rfl ?_
    refine iA rfl rfl Tryd.underlying30 sz5_1 (by omega) rfl ?_
    refine lc rfl (by first | assumption | exact H.fr.cell (by assumption) (by simp)) sc5 rfl ?_
    refine asg (v := .int .u8 _) rfl rfl ?_
    refine nl ?_
    refine then_n ?_
    refine dr (by kernel_rfl) ?_
    have H := H.drew
    replace O := O.drew
    refine hold (fun w' => SH w [] w' [⟨b1, .cells (ordL.map fun (k : Nat) => Value.int .i64 (k : Int)).toArray 77 (0, 0), true⟩]) [] ?_
    refine tk (i := 0) rfl (by kernel_rfl) rfl (H.subX) (fun w' H => r_mv (v := .slice _ _ _) rfl) ?_
    refine tk (i := 1) rfl (by kernel_rfl) rfl (H.subX) (fun w' H => r_mv (v := .string _) rfl) ?_
    refine tk (i := 2) rfl (by kernel_rfl) rfl (H.subX) (fun w' H => r_mv (v := .int .u8 _) rfl) ?_
    refine tk (i := 3) rfl (by kernel_rfl) rfl (H.subX) (fun w' H => r_shrK (s := 4) (p := 16) rfl rfl (by decide) (by decide) rfl) ?_
    refine tk (i := 4) rfl (by kernel_rfl) rfl (H.subX) (fun w' H => r_ixS (bs := capL) rfl rfl Tryd.underlying9 (by rw [show capL.length = 16 from rfl]; omega)) ?_
    refine tk (i := 5) rfl (by kernel_rfl) rfl (H.subX) (fun w' H => r_mv (v := .string _) rfl) ?_
    refine tk (i := 6) rfl (by kernel_rfl) rfl (H.subX) (fun w' H => r_mv (v := .int .u8 _) rfl) ?_
    refine tk (i := 7) rfl (by kernel_rfl) rfl (H.subX) (fun w' H => r_band (c := (((b.getD (ordL.getD i 0) 0).toNat % 16 : Nat) : Int)) rfl rfl (and15 (UInt8.toNat_lt _))) ?_
    refine tk (i := 8) rfl (by kernel_rfl) rfl (H.subX) (fun w' H => r_ixS (bs := capL) rfl rfl Tryd.underlying9 (by rw [show capL.length = 16 from rfl]; omega)) ?_
    refine fk (i := 9) (by kernel_rfl) rfl rfl rfl ?_
    refine bsl (sz := 1) (out := Bs [capL.getD ((b.getD (ordL.getD i 0) 0).toNat / 16) 0, capL.getD ((b.getD (ordL.getD i 0) 0).toNat % 16) 0]) H Tryd.underlying30 ze5 sz5_1 (by decide) (by
     refine FS.one (v := .int .u8 _) rfl rfl rfl (by decide) ?_
     refine FS.one (v := .int .u8 _) rfl rfl rfl (by first | decide | simp) ?_
     exact FS.nil) rfl ?_
    intro b10 w95 hb10 H1 F; replace O := O.new F hb10 H1.look; clear H H1 F; have H := O.sh
    refine nl ?_
    refine then_n ?_
    refine ⟨H.subX, ?_⟩
    refine fk (i := 10) (by kernel_rfl) rfl rfl rfl ?_
    refine apO (zs := [.int .u8 0]) (Bs ([capL.getD ((b.getD (ordL.getD i 0) 0).toNat / 16) 0, capL.getD ((b.getD (ordL.getD i 0) 0).toNat % 16) 0])) O rfl rfl Tryd.underlying30 ri5 (by first | rfl | simp) (cells_look H.look) Bs_one (by simp) (by omega) (by unfold maxLen; omega) rfl ?_
    clear O H; intro D9 cp9 w8 O
    have H := O.sh
    refine nl ?_
    refine then_n ?_
    refine ⟨H.subX, ?_⟩
    refine tk (i := 11) rfl (by kernel_rfl) rfl (H.subX) (fun w' H => r_asg (v := .slice _ _ _) rfl) ?_
    refine da (by kernel_rfl) ?_
    refine in_n ?_
    refine then_n ?_
    refine rg ?_
    refine add rfl rfl (by first | exact w_i64 (by omega) | exact w_i64 (rng_i64 _) | rfl) rfl ?_
    refine mv (v := .int .i64 _) rfl rfl ?_
    refine nl ?_
    refine loop_n ?_
    exact ⟨(i + 1, D9, k + 2, cp9), (by (try dsimp only); omega), ⟨by omega, by omega, by rw [gTp_succ, gTk, ← List.append_assoc]; exact Bs_app _ _ ▸ O.subX⟩, (fCX (fCX (fN _))), agX⟩
  ·refine ex ?_
   refine then_e ?_
   refine loop_e ?_
   refine in_hit rfl ?_
   refine then_n ?_
   refine sq ?_
   refine rg ?_
   refine mv (v := .slice _ _ _) rfl rfl ?_
   refine cvBS rfl (by exact O.rb) Tryd.underlying30 Tryd.underlying5 Tryd.underlying9 rfl ?_
   refine asg (v := .string _) rfl rfl ?_
   refine nl ?_
   refine then_n ?_
   refine rt ?_
   refine fin_r ?_
   obtain rfl : i = 16 := by omega
   exact ⟨rfl, O.sh.fr⟩
end Go.Proofs.YthcaejaaalkglaaDoor.X
/- Walks of functions, printed by a program of this claim. -/
namespace Go.Proofs.YthcaejaaalkglaaDoor.X
set_option linter.unusedVariables false
set_option linter.unusedSimpArgs false
open Go Go.RowKit
namespace PF
theorem ca40 : callable Tryd.prog 40 = true := by kernel_rfl
theorem ri25 : rowInfo Tryd.prog 25 = some ([.int .u16 0], 2) := by kernel_rfl
theorem sz25_1 : sizeB Tryd.prog 25 1 = true := by kernel_rfl
theorem ze25 : zeroL Tryd.prog 25 = some [.int .u16 0] := by kernel_rfl
end PF
open PF
set_option maxRecDepth 100000 in
set_option maxHeartbeats 1000000 in
theorem c_utf16 (w : World) (s : List UInt8) (hs : s.length ≤ 2147483647) : Calls Tryd.prog 40 #[.string (str s)] w (Ret fun v w' => ∃ D cap, v = .slice D (utf16 s).length cap ∧ OR 25 1 w [] w' [] D (utf16 s).length cap ((utf16 s).map (Value.int .u16))) := by
 refine enter (fun ρ => ρ 2) Tryd.func40 rfl rfl rfl (res1 rfl) ?_
 have H := SH.nil w
 refine sq ?_
 refine rg ?_
 refine asg (v := .slice _ _ _) rfl rfl ?_
 refine nl ?_
 refine then_n ?_
 refine sq ?_
 refine rg ?_
 refine asg (v := .slice _ _ _) rfl rfl ?_
 refine nl ?_
 refine then_n ?_
 refine sq ?_
 refine sq ?_
 refine rg ?_
 refine mv (v := .string _) rfl rfl ?_
 refine rngS H rfl Tryd.underlying9 rfl ?_
 clear H; intro b1 w1 hb1 H _
 refine nl ?_
 refine then_n ?_
 refine bk ?_
 refine lpM (α := Nat × Option Addr × Nat × List Int) [3, 5, 8, 9, 10, 11, 12, 13, 14, 15, 16, 17, 18, 19, 20, 21, 22, 23, 24, 25, 26, 27, 28, 29, 30] (fun (p, D, cap, us) => [(3, .slice D us.length cap)]) (fun (p, D, cap, us) w' => p ≤ s.length ∧ us.length ≤ p ∧ utf16 s = us ++ utf16 (s.drop p) ∧ OR 25 1 w [] w' [⟨b1, .stringIter (str s) p, true⟩] D us.length cap (us.map (Value.int .u16))) (fun (p, D, cap, us) => s.length - p) (0, none, 0, []) ?_ (fCX (fN _)) ?_
 ·exact ⟨by omega, by simp, rfl, OR.nil H⟩
 ·rintro ⟨p, D, cap, us⟩ ρx w2 ⟨hp, hul, hus, O⟩
  have H := O.sh
  refine sq ?_
  refine rg ?_
  refine nxt H rfl rfl ?_
  intro w3 H1 F; replace O := O.put F H1.look; clear H H1 F; have H := O.sh
  refine xt rfl (next0 _ _) rfl ?_
  refine nl ?_
  refine then_n ?_
  refine sq ?_
  refine cd rfl (fun hc1 => ?_) (fun hc1 => ?_)
  ·have hlt : p < s.length := by assumption
   rw [nextP_of hlt] at O H
   obtain ⟨g1, g2, g3, g4, g5, g6, _⟩ := rune_at hlt
   rw [List.length_drop] at g2
   refine sk ?_
   refine then_n ?_
   refine bk ?_
   refine sq ?_
   refine rg ?_
   refine xt rfl (next2 (by omega)) rfl ?_
   refine asg (v := .int .i32 _) rfl rfl ?_
   refine nl ?_
   refine then_n ?_
   refine sq ?_
   refine sq ?_
   refine rg ?_
   refine mv (v := .int .i32 _) rfl rfl ?_
   refine geq rfl rfl rfl ?_
   refine nl ?_
   refine then_n ?_
   refine cd rfl (fun hc2 => ?_) (fun hc2 => ?_)
   ·have h4 := g6 (by omega)
    have hu2 : u16 (rune1 (s.drop p)).1 = [55296 + ((((rune1 (s.drop p)).1 : Int) - 65536) / 1024), 56320 + ((((rune1 (s.drop p)).1 : Int) - 65536) % 1024)] := by
     unfold u16; rw [if_pos (by omega)]; congr 1; omega; congr 1; omega
    have hu2l : (u16 (rune1 (s.drop p)).1).length = 2 := by rw [hu2]; rfl
    refine sq ?_
    refine rg ?_
    refine mv (v := .int .i32 _) rfl rfl ?_
    refine sub rfl rfl (by first | exact w_i32 (by omega) | exact w_i32 (rng_i32 _) | rfl) rfl ?_
    refine asg (v := .int .i32 _) rfl rfl ?_
    refine nl ?_
    refine then_n ?_
    refine sq ?_
    refine rg ?_
    refine mv (v := .slice _ _ _) rfl rfl ?_
    refine mv (v := .int .i32 _) rfl rfl ?_
    refine shrK (s := 10) (p := 1024) rfl rfl (by decide) (by decide) rfl rfl ?_
    refine cvi rfl rfl Tryd.underlying25 (by first | exact w_u16 (by omega) | exact w_u16 (rng_u16 _) | exact m_u16 _) rfl ?_
    refine add rfl rfl (by first | exact w_u16 (by omega) | exact w_u16 (rng_u16 _) | exact m_u16 _) rfl ?_
    refine mv (v := .int .i32 _) rfl rfl ?_
    refine band (c := (((rune1 (s.drop p)).1 : Int) - 65536) % 1024) rfl rfl (and1023 (by omega)) rfl ?_
    refine cvi rfl rfl Tryd.underlying25 (by first | exact w_u16 (by omega) | exact w_u16 (rng_u16 _) | exact m_u16 _) rfl ?_
    refine add rfl rfl (by first | exact w_u16 (by omega) | exact w_u16 (rng_u16 _) | exact m_u16 _) rfl ?_
    refine bsl (sz := 1) (out := ?o1) H Tryd.underlying80 ze25 sz25_1 (by decide) ?f1 rfl ?_
    case f1 =>
     refine FS.one (v := .int .u16 _) rfl rfl rfl (by first | decide | simp) ?_
     refine FS.one (v := .int .u16 _) rfl rfl rfl (by first | decide | simp) ?_
     exact FS.nil
    intro b2 w4 hb2 H1 F; replace O := O.new F hb2 H1.look; clear H H1 F; have H := O.sh
    refine apO (zs := [.int .u16 0]) ([.int .u16 (55296 + ((((rune1 (s.drop p)).1 : Int) - 65536) / 1024)), .int .u16 (56320 + ((((rune1 (s.drop p)).1 : Int) - 65536) % 1024))]) O rfl rfl Tryd.underlying80 ri25 (by first | rfl | simp) (cells_look H.look) (by simp [Value.oneCell']) (by simp) (by omega) (by unfold maxLen; omega) rfl ?_
    clear O H; intro D9 cp9 w5 O
    have H := O.sh
    refine asg (v := .slice _ _ _) rfl rfl ?_
    refine nl ?_
    refine then_n ?_
    refine ex ?_
    refine then_e ?_
    refine in_hit rfl ?_
    refine loop_n ?_
    exact ⟨(p + (rune1 (s.drop p)).2, D9, cp9, us ++ u16 (rune1 (s.drop p)).1), (by (try dsimp only); omega), ⟨by omega, by rw [List.length_append, hu2]; simp; omega, by rw [hus, utf16_at hlt, List.append_assoc], by rw [hu2, List.length_append, List.map_append]; exact O.subX⟩, (fCX (fN _)), agX⟩
   ·have hu1 : u16 (rune1 (s.drop p)).1 = [((rune1 (s.drop p)).1 : Int)] := by unfold u16; rw [if_neg (by omega)]
    have hu1l : (u16 (rune1 (s.drop p)).1).length = 1 := by rw [hu1]; rfl
    refine sk ?_
    refine then_n ?_
    refine rg ?_
    refine mv (v := .slice _ _ _) rfl rfl ?_
    refine mv (v := .int .i32 _) rfl rfl ?_
    refine cvi rfl rfl Tryd.underlying25 (by first | exact w_u16 (by omega) | exact w_u16 (rng_u16 _) | exact m_u16 _) rfl ?_
    refine bsl (sz := 1) (out := ?o2) H Tryd.underlying80 ze25 sz25_1 (by decide) ?f2 rfl ?_
    case f2 =>
     refine FS.one (v := .int .u16 _) rfl rfl rfl (by first | decide | simp) ?_
     exact FS.nil
    intro b3 w6 hb3 H1 F; replace O := O.new F hb3 H1.look; clear H H1 F; have H := O.sh
    refine apO (zs := [.int .u16 0]) ([.int .u16 ((rune1 (s.drop p)).1 : Int)]) O rfl rfl Tryd.underlying80 ri25 (by first | rfl | simp) (cells_look H.look) (by simp [Value.oneCell']) (by simp) (by omega) (by unfold maxLen; omega) rfl ?_
    clear O H; intro D9 cp9 w7 O
    have H := O.sh
    refine asg (v := .slice _ _ _) rfl rfl ?_
    refine nl ?_
    refine in_n ?_
    refine loop_n ?_
    exact ⟨(p + (rune1 (s.drop p)).2, D9, cp9, us ++ u16 (rune1 (s.drop p)).1), (by (try dsimp only); omega), ⟨by omega, by rw [List.length_append, hu1]; simp; omega, by rw [hus, utf16_at hlt, List.append_assoc], by rw [hu1, List.length_append, List.map_append]; exact O.subX⟩, (fCX (fN _)), agX⟩
  ·refine ex ?_
   refine then_e ?_
   refine loop_e ?_
   refine in_hit rfl ?_
   refine then_n ?_
   refine sq ?_
   refine rg ?_
   refine mv (v := .slice _ _ _) rfl rfl ?_
   refine asg (v := .slice _ _ _) rfl rfl ?_
   refine nl ?_
   refine then_n ?_
   refine rt ?_
   refine fin_r ?_
   obtain rfl : p = s.length := by omega
   have e : utf16 s = us := by rw [hus, List.drop_length, utf16_nil, List.append_nil]
   rw [e]
   exact ⟨D, cap, rfl, O.sub (List.nil_sublist _)⟩
set_option maxRecDepth 100000 in
set_option maxHeartbeats 1000000 in
theorem c_gptName (w : World) (s : List UInt8) (hs : s.length ≤ 2147483647) : Calls Tryd.prog 23 #[.string (str s)] w (Ret fun v w' => v = .bool (decide ((utf16 s).length ≤ 36)) ∧ Fr [] w w') := by
 refine enter (fun ρ => ρ 2) Tryd.func23 rfl rfl rfl (res1 rfl) ?_
 have H := SH.nil w
 refine sq ?_
 refine rg ?_
 refine asg (v := .bool _) rfl rfl ?_
 refine nl ?_
 refine then_n ?_
 refine sq ?_
 refine rg ?_
 refine mv (v := .string _) rfl rfl ?_
 refine cl ca40 (c_utf16 _ _ (by omega)) rfl ?_
 rintro _ w1 ⟨DU, capU, rfl, O⟩
 replace O := O.join H; clear H; have H := O.sh
 refine lnS rfl Tryd.underlying80 rfl ?_
 refine leq rfl rfl rfl ?_
 refine asg (v := .bool _) rfl rfl ?_
 refine nl ?_
 refine then_n ?_
 refine rt ?_
 refine fin_r ?_
 refine ⟨congrArg Value.bool (decide_eq_decide.2 ?_), H.fr⟩
 omega
end Go.Proofs.YthcaejaaalkglaaDoor.X
/- The laws of single operations: bytes copied whole. -/
namespace Go.Proofs.YthcaejaaalkglaaDoor.X
set_option linter.unusedVariables false
open Go Go.RowKit
section steps
variable {P : Program} {n : Nat} {ops : Array Oper} {Q : Post} {rest : List Oper} {ρ : Env} {w : World} {ty : TypeId} {pos : String} {af : Array Edge} {d : Nat}
variable {w0 : World} {S : List Nat} {L L' : List Ent}
theorem cpP {t e T : TypeId} {x y : Operand} {b o dl dc sl sc f1 f2 : Nat} {A : Option Addr} {ds bs : List UInt8} (H : SH w0 S w L) (hx : ev ρ x = .slice (some ⟨b, o, none⟩) dl dc) (hy : ev ρ y = .slice A sl sc) (hu : P.underlying t = some (.slice e)) (hs : sizeB P e 1 = true)
  [lk : Look L b (.cells (Bs ds).toArray T (f1, f2))] (hr : RB w A sl bs) (hle : sl ≤ dl) (ho : o + dl ≤ ds.length) (hf : f2 ≤ o ∨ o + dl ≤ f1)
  [tn : Turn L b (.cells (Bs (pAt ds o bs)).toArray T (f1, f2)) L'] (hn : Nat.blt d n = true)
  (kk : ∀ w', SH w0 S w' L' → Fr [b] w w' → (pAt ds o bs).length = ds.length → wl P n ops Q rest (upd ρ d (.int .i64 (sl : Int))) w') : wl P n ops Q (⟨some d, .call { callee := .builtin .copy, args := #[x, y], argTypes := #[t, t] }, ty, pos, af, none⟩ :: rest) ρ w := by
 have hm : min sl dl = sl := Nat.min_eq_left hle
 have he : ds.take o ++ bs.take (min sl dl) ++ ds.drop (o + min sl dl) = pAt ds o bs := by
  rw [hm, List.take_of_length_le (l := bs) (by rw [hr.1]; exact Nat.le_refl _)]
  unfold pAt; rw [hr.1]
 refine cpB (L' := L') (tn := by rw [he]; exact tn) H hx hy hu hs hr ho hf hn (fun w' h1 h2 => ?_)
 rw [hm]; exact kk w' h1 h2 (pAt_len (by rw [hr.1]; omega))
theorem cpT {t e T tq : TypeId} {x y : Operand} {b o dl dc f1 f2 : Nat} {ds bs : List UInt8} (H : SH w0 S w L) (hx : ev ρ x = .slice (some ⟨b, o, none⟩) dl dc) (hy : ev ρ y = .string (str bs)) (hu : P.underlying t = some (.slice e)) (hs : sizeB P e 1 = true)
  [lk : Look L b (.cells (Bs ds).toArray T (f1, f2))] (hle : bs.length ≤ dl) (ho : o + dl ≤ ds.length) (hf : f2 ≤ o ∨ o + dl ≤ f1)
  [tn : Turn L b (.cells (Bs (pAt ds o bs)).toArray T (f1, f2)) L'] (hn : Nat.blt d n = true)
  (kk : ∀ w', SH w0 S w' L' → Fr [b] w w' → (pAt ds o bs).length = ds.length → wl P n ops Q rest (upd ρ d (.int .i64 (bs.length : Int))) w') : wl P n ops Q (⟨some d, .call { callee := .builtin .copy, args := #[x, y], argTypes := #[t, tq] }, ty, pos, af, none⟩ :: rest) ρ w := by
 have hL := H.look (b := b) (o := .cells (Bs ds).toArray T (f1, f2))
 obtain ⟨h2, f2'⟩ := heap_setCells (Bs bs) o w b (Bs ds) T (f1, f2) hL (by simp; omega)
 have hst := run_storeCells_at' (P := P) (o := o) (Bs bs) hL (by simp; omega) (by simp; omega) (by intro v hv; obtain ⟨_, _, rfl⟩ := List.mem_map.1 hv; rfl)
 have hex : List.take bs.length (List.map (fun b : UInt8 => Value.int .u8 (b.toNat : Int)) (str bs).data.toList) = Bs bs := by
  rw [List.take_of_length_le (by simp [str])]
  rfl
 refine val rfl rfl hn (w' := w.setCells b o (Bs bs)) (v := .int .i64 (bs.length : Int)) ?_ (kk _ (H.put (b := b) (o' := .cells (Bs (pAt ds o bs)).toArray T (f1, f2)) f2' ?_) f2' (pAt_len (by omega)))
 ·have hmin : Nat.min bs.length dl = bs.length := Nat.min_eq_left hle
  simp only [execOp, resolve, invoke, builtin, Sem.run_bind, Sem.run_pure, Result.andThen_ok, List.map_toArray, List.map_cons, List.map_nil, hx, hy]
  simp [Builtin.copy_, run_underlying hu, Builtin.lenOf, run_sizeOf hs, hmin, Builtin.firstCells, hex, hst, goInt]
 ·rw [h2]; simp [Bs, pAt]
end steps
end Go.Proofs.YthcaejaaalkglaaDoor.X
/- Walks of functions, printed by a program of this claim. -/
namespace Go.Proofs.YthcaejaaalkglaaDoor.X
set_option linter.unusedVariables false
set_option linter.unusedSimpArgs false
open Go Go.RowKit
namespace PF
theorem ag59_11 : aggB Tryd.prog 59 11 = true := by kernel_rfl
theorem ag60_44 : aggB Tryd.prog 60 44 = true := by kernel_rfl
theorem ca43 : callable Tryd.prog 43 = true := by kernel_rfl
theorem fo59_1 : fieldOff Tryd.prog 59 1 = some 1 := by kernel_rfl
theorem fo59_2 : fieldOff Tryd.prog 59 2 = some 2 := by kernel_rfl
theorem fo59_3 : fieldOff Tryd.prog 59 3 = some 3 := by kernel_rfl
theorem fo59_4 : fieldOff Tryd.prog 59 4 = some 4 := by kernel_rfl
theorem fo59_5 : fieldOff Tryd.prog 59 5 = some 5 := by kernel_rfl
theorem mi5 : elemInfo Tryd.prog 5 = some (.int .u8 0, 1) := by kernel_rfl
theorem sc4 : scalarB Tryd.prog 4 = true := by kernel_rfl
theorem sc53 : scalarB Tryd.prog 53 = true := by kernel_rfl
theorem ze59 : zeroL Tryd.prog 59 = some [.int .i64 0, .bool false, .int .u8 0, .int .u32 0, .int .u32 0, .int .u8 0, .int .u8 0, .int .u8 0, .int .u8 0, .int .u8 0, .int .u8 0] := by kernel_rfl
end PF
open PF
set_option maxRecDepth 100000 in
set_option maxHeartbeats 1000000 in
theorem c_putLe (w : World) (b o n c : Nat) (x : Int) (T : TypeId) (cur : List UInt8) (hb : w.heap[b]? = some (.cells (Bs cur).toArray T (0, 0))) (ho : o + n ≤ cur.length) (hn : n ≤ 9223372036854775806) : Calls Tryd.prog 43 #[.slice (some ⟨b, o, none⟩) n c, .int .u64 x] w (Ret fun v w' => v = .tuple #[] ∧ (pAt cur o (leB n x)).length = cur.length ∧ Fr [b] w w' ∧ w'.heap[b]? = some (.cells (Bs (pAt cur o (leB n x))).toArray T (0, 0))) := by
 refine enter (fun _ => .tuple #[]) Tryd.func43 rfl rfl rfl (res0 rfl) ?_
 have H := SH.rw1 hb
 refine sq ?_
 refine rg ?_
 refine mv (v := .slice _ _ _) rfl rfl ?_
 refine lnS rfl Tryd.underlying30 rfl ?_
 refine mv (v := .int .i64 _) rfl rfl ?_
 refine nl ?_
 refine then_n ?_
 refine bk ?_
 have e0 : x = x / 256 ^ 0 := by simp
 refine lpM (α := Nat) [1, 4, 7, 8, 9, 10, 11, 12, 13, 14, 15, 16, 17] (fun i => [(1, .int .u64 (x / 256 ^ i)), (7, .int .i64 (i : Int))]) (fun i w' => i ≤ n ∧ SH w [b] w' [⟨b, .cells (Bs (pAt cur o (leB i x))).toArray T (0, 0), true⟩]) (fun i => n - i) 0 ?_ (fCX (fCX (fN _))) ?_
 ·exact ⟨by omega, by rw [show leB 0 x = [] from rfl, pAt_nil]; exact H⟩
 ·rintro i ρx w1 ⟨hi, H⟩
  have hX : (pAt cur o (leB i x)).length = cur.length := pAt_len (by rw [leB_len]; omega)
  have hp0 : (0 : Int) < 256 ^ i := Int.pow_pos (by decide)
  have hq : x / 256 ^ i / 256 = x / 256 ^ (i + 1) := (Int.ediv_ediv .. |>.trans (by rw [if_neg (fun h => absurd h.1 (by omega)), Int.sub_zero, Int.pow_succ]))
  refine sq ?_
  refine rg ?_
  refine lss rfl rfl rfl ?_
  refine nl ?_
  refine then_n ?_
  refine sq ?_
  refine cd rfl (fun hc1 => ?_) (fun hc1 => ?_)
  ·refine sk ?_
   refine then_n ?_
   refine sq ?_
   refine bk ?_
   refine sq ?_
   refine rg ?_
   refine mv (v := .int .i64 _) rfl rfl ?_
   refine asg (v := .int .i64 _) rfl rfl ?_
   refine nl ?_
   refine then_n ?_
   refine sq ?_
   refine rg ?_
   refine mv (v := .slice _ _ _) rfl rfl ?_
   refine mv (v := .int .i64 _) rfl rfl ?_
   refine mv (v := .int .u64 _) rfl rfl ?_
   refine cvi rfl rfl Tryd.underlying5 (by first | exact w_u8 (by omega) | exact w_u8 (rng_u8 _) | exact m_u8 _) rfl ?_
   refine ia rfl rfl Tryd.underlying30 sz5_1 (by omega) rfl ?_
   refine stb H rfl rfl sc5 (by omega) (by first | decide | (simp only [List.length_set, List.length_cons, List.length_nil, List.length_replicate, List.length_append, Bs_length]; omega) | omega) (by omega) ?_
   clear H; intro w2 H _
   refine nl ?_
   refine then_n ?_
   refine rg ?_
   refine mv (v := .int .u64 _) rfl rfl ?_
   refine shrK (s := 8) (p := 256) rfl rfl (by decide) (by decide) rfl rfl ?_
   refine asg (v := .int .u64 _) rfl rfl ?_
   refine nl ?_
   refine in_n ?_
   refine then_n ?_
   refine rg ?_
   refine add rfl rfl (by first | exact w_i64 (by omega) | exact w_i64 (rng_i64 _) | rfl) rfl ?_
   refine mv (v := .int .i64 _) rfl rfl ?_
   refine nl ?_
   refine loop_n ?_
   exact ⟨i + 1, (by (try dsimp only); omega), ⟨by omega, sh_bytes H (by rw [leB_snoc, ← pAt_set (by rw [leB_len]; omega)]; exact set_eq (by rw [leB_len]; omega) rfl)⟩, (fCX (fCX (fN _))), agX⟩
  ·refine ex ?_
   refine then_e ?_
   refine loop_e ?_
   refine in_hit rfl ?_
   refine fin_n ?_
   obtain rfl : i = n := by omega
   exact ⟨rfl, pAt_len (by rw [leB_len]; omega), H.fr, H.look⟩
set_option maxRecDepth 100000 in
set_option maxHeartbeats 1000000 in
theorem c_mbrEncode (w : World) (b n c : Nat) (T : TypeId) (ds : List UInt8) (ps : List MP) (hb : w.heap[b]? = some (.cells (Bs ds).toArray T (0, 0))) (hd : 512 ≤ ds.length) (hn : 512 ≤ n) (hc : n ≤ c) (h4 : ps.length = 4) (hok : ∀ p ∈ ps, p.ok) : Calls Tryd.prog 27 #[.slice (some ⟨b, 0, none⟩) n c, .agg (ps.flatMap MP.cells).toArray] w (Ret fun v w' => v = .tuple #[] ∧ (mbrB ds ps).length = ds.length ∧ Fr [b] w w' ∧ w'.heap[b]? = some (.cells (Bs (mbrB ds ps)).toArray T (0, 0))) := by
 refine enter (fun _ => .tuple #[]) Tryd.func27 rfl rfl rfl (res0 rfl) ?_
 have H := SH.rw1 hb
 have hcl : (ps.flatMap MP.cells).length = 44 := by rw [flat_len MP.cells_len, h4]
 refine sq ?_
 refine rg ?_
 refine bx (v := .agg _) H rfl rfl rfl ?_
 clear H; intro b1 w1 hb1 H _
 refine nl ?_
 refine then_n ?_
 refine sq ?_
 refine sq ?_
 refine rg ?_
 refine la H rfl ag60_44 hcl (by rw [List.drop_zero, List.take_of_length_le (by omega)]) rfl ?_
 refine mv (v := .int .i64 _) rfl rfl ?_
 refine nl ?_
 refine then_n ?_
 refine bk ?_
 replace H := H.drop
 refine lpM (α := Nat) [4, 5, 6, 8, 9, 10, 11, 12, 13, 14, 15, 16, 17, 18, 19, 20, 21, 22, 23, 24, 25, 26, 27, 28, 29, 30, 31, 32, 33, 34, 35, 36, 37, 38, 39, 40, 41, 42, 43, 44, 45, 46, 47, 48, 49, 50, 51, 52, 53, 54, 55, 56, 57, 58, 59, 60, 61, 62, 63, 64, 65, 66, 67, 68, 69, 70, 71, 72] (fun i => [(8, .int .i64 (i : Int))]) (fun i w' => i ≤ 4 ∧ SH w [b] w' [⟨b, .cells (Bs (pAt ds 446 ((ps.take i).flatMap MP.bytes))).toArray T (0, 0), true⟩]) (fun i => 4 - i) 0 ?_ (fCX (fN _)) ?_
 ·exact ⟨by omega, by simpa [pAt_nil] using H⟩
 ·rintro i ρx w2 ⟨hi, H⟩
  have hk4 : (ps.take i).length ≤ 4 := by simp; omega
  have hX : (pAt ds 446 ((ps.take i).flatMap MP.bytes)).length = ds.length := pAt_len (by rw [flat_len MP.bytes_len]; omega)
  refine sq ?_
  refine rg ?_
  refine lss rfl rfl rfl ?_
  refine nl ?_
  refine then_n ?_
  refine sq ?_
  refine cd rfl (fun hc1 => ?_) (fun hc1 => ?_)
  ·obtain ⟨p, hp⟩ : ∃ p, ps[i]? = some p := ⟨_, List.getElem?_eq_getElem (by omega)⟩
   have hpo := hok p (List.mem_of_getElem? hp)
   have := hpo.c0; have := hpo.c1; have := hpo.c2; have := hpo.c3; have := hpo.c4; have := hpo.c5; have := hpo.ty; have := hpo.st; have := hpo.sz
   refine sk ?_
   refine then_n ?_
   refine sq ?_
   refine bk ?_
   refine sq ?_
   refine rg ?_
   refine mv (v := .int .i64 _) rfl rfl ?_
   refine ixW rfl rfl Tryd.underlying60 ag59_11 (by omega) (mp_ix hp) rfl ?_
   refine al H ze59 rfl ?_
   clear H; intro b2 w3 hb2 H _
   refine asg (v := .int .i64 _) rfl rfl ?_
   refine sa H rfl rfl ag59_11 rfl rfl (by decide) (by omega) rfl ?_
   clear H; intro w4 H _
   refine nl ?_
   refine then_n ?_
   refine sq ?_
   refine rg ?_
   refine mv (v := .slice _ _ _) rfl rfl ?_
   refine mv (v := .int .i64 _) rfl rfl ?_
   refine mul rfl rfl (by first | exact w_i64 (by omega) | exact w_i64 (rng_i64 _) | rfl) rfl ?_
   refine add rfl rfl (by first | exact w_i64 (by omega) | exact w_i64 (rng_i64 _) | rfl) rfl ?_
   refine mv (v := .int .i64 _) rfl rfl ?_
   refine mul rfl rfl (by first | exact w_i64 (by omega) | exact w_i64 (rng_i64 _) | rfl) rfl ?_
   refine add rfl rfl (by first | exact w_i64 (by omega) | exact w_i64 (rng_i64 _) | rfl) rfl ?_
   refine sllh rfl rfl rfl Tryd.underlying30 sz5_1 (by first | trivial | omega | (simp; omega)) rfl ?_
   refine asg (v := .slice _ _ _) rfl rfl ?_
   refine nl ?_
   refine then_n ?_
   refine sq ?_
   refine rg ?_
   refine mv (v := .slice _ _ _) rfl rfl ?_
   refine ia rfl rfl Tryd.underlying30 sz5_1 (by omega) rfl ?_
   refine stb H rfl rfl sc5 (by omega) (by first | decide | (simp only [List.length_set, List.length_cons, List.length_nil, List.length_replicate, List.length_append, Bs_length]; omega) | omega) (by omega) ?_
   clear H; intro w5 H _
   refine nl ?_
   refine then_n ?_
   refine sq ?_
   refine sq ?_
   refine rg ?_
   refine fa rfl fo59_1 rfl ?_
   refine ld H rfl sc4 rfl rfl ?_
   refine nl ?_
   refine then_n ?_
   refine cn rfl (fun hc2 => ?_) (fun hc2 => ?_)
   ·refine rg ?_
    refine mv (v := .slice _ _ _) rfl rfl ?_
    refine ia rfl rfl Tryd.underlying30 sz5_1 (by omega) rfl ?_
    refine stb H rfl rfl sc5 (by omega) (by first | decide | (simp only [List.length_set, List.length_cons, List.length_nil, List.length_replicate, List.length_append, Bs_length]; omega) | omega) (by omega) ?_
    clear H; intro w6 H _
    refine nl ?_
    refine then_n ?_
    refine sq ?_
    refine dr (by kernel_rfl) ?_
    have H := H.drew
    refine hold (fun w' => SH w [b] w' [⟨b2, .cells p.cells.toArray 59 (0, 0), true⟩]) [] ?_
    refine tk (i := 0) rfl (by kernel_rfl) rfl (H.subX) (fun w' H => r_mv (v := .slice _ _ _) rfl) ?_
    refine tk (i := 1) rfl (by kernel_rfl) rfl (H.subX) (fun w' H => r_mv (v := .slice _ _ _) rfl) ?_
    refine tk (i := 2) rfl (by kernel_rfl) rfl (H.subX) (fun w' H => r_mv (v := .slice _ _ _) rfl) ?_
    refine tk (i := 3) rfl (by kernel_rfl) rfl (H.subX) (fun w' H => r_mv (v := .slice _ _ _) rfl) ?_
    refine tk (i := 4) rfl (by kernel_rfl) rfl (H.subX) (fun w' H => r_fa rfl fo59_5) ?_
    refine tk (i := 5) rfl (by kernel_rfl) rfl (H.subX) (fun w' H => r_iy rfl rfl Tryd.underlying57 sz5_1 (by omega)) ?_
    refine tk (i := 6) rfl (by kernel_rfl) rfl (H.subX) (fun w' H => r_ld H rfl sc5 rfl) ?_
    refine tk (i := 7) rfl (by kernel_rfl) rfl (H.subX) (fun w' H => r_fa rfl fo59_5) ?_
    refine tk (i := 8) rfl (by kernel_rfl) rfl (H.subX) (fun w' H => r_iy rfl rfl Tryd.underlying57 sz5_1 (by omega)) ?_
    refine tk (i := 9) rfl (by kernel_rfl) rfl (H.subX) (fun w' H => r_ld H rfl sc5 rfl) ?_
    refine tk (i := 10) rfl (by kernel_rfl) rfl (H.subX) (fun w' H => r_fa rfl fo59_5) ?_
    refine tk (i := 11) rfl (by kernel_rfl) rfl (H.subX) (fun w' H => r_iy rfl rfl Tryd.underlying57 sz5_1 (by omega)) ?_
    refine tk (i := 12) rfl (by kernel_rfl) rfl (H.subX) (fun w' H => r_ld H rfl sc5 rfl) ?_
    refine tk (i := 13) rfl (by kernel_rfl) rfl (H.subX) (fun w' H => r_fa rfl fo59_2) ?_
    refine tk (i := 14) rfl (by kernel_rfl) rfl (H.subX) (fun w' H => r_ld H rfl sc5 rfl) ?_
    refine tk (i := 15) rfl (by kernel_rfl) rfl (H.subX) (fun w' H => r_ia rfl rfl Tryd.underlying30 sz5_1 (by omega)) ?_
    refine fk (i := 16) (by kernel_rfl) rfl rfl rfl ?_
    refine stb H rfl rfl sc5 (by omega) (by first | decide | (simp only [List.length_set, List.length_cons, List.length_nil, List.length_replicate, List.length_append, Bs_length]; omega) | omega) (by omega) ?_
    clear H; intro w7 H _
    refine nl ?_
    refine then_n ?_
    refine ⟨H.subX, ?_⟩
    refine tk (i := 17) rfl (by kernel_rfl) rfl (H.subX) (fun w' H => r_ia rfl rfl Tryd.underlying30 sz5_1 (by omega)) ?_
    refine fk (i := 18) (by kernel_rfl) rfl rfl rfl ?_
    refine stb H rfl rfl sc5 (by omega) (by first | decide | (simp only [List.length_set, List.length_cons, List.length_nil, List.length_replicate, List.length_append, Bs_length]; omega) | omega) (by omega) ?_
    clear H; intro w8 H _
    refine nl ?_
    refine then_n ?_
    refine ⟨H.subX, ?_⟩
    refine tk (i := 19) rfl (by kernel_rfl) rfl (H.subX) (fun w' H => r_ia rfl rfl Tryd.underlying30 sz5_1 (by omega)) ?_
    refine fk (i := 20) (by kernel_rfl) rfl rfl rfl ?_
    refine stb H rfl rfl sc5 (by omega) (by first | decide | (simp only [List.length_set, List.length_cons, List.length_nil, List.length_replicate, List.length_append, Bs_length]; omega) | omega) (by omega) ?_
    clear H; intro w9 H _
    refine nl ?_
    refine then_n ?_
    refine ⟨H.subX, ?_⟩
    refine tk (i := 21) rfl (by kernel_rfl) rfl (H.subX) (fun w' H => r_ia rfl rfl Tryd.underlying30 sz5_1 (by omega)) ?_
    refine fk (i := 22) (by kernel_rfl) rfl rfl rfl ?_
    refine stb H rfl rfl sc5 (by omega) (by first | decide | (simp only [List.length_set, List.length_cons, List.length_nil, List.length_replicate, List.length_append, Bs_length]; omega) | omega) (by omega) ?_
    clear H; intro w10 H _
    refine nl ?_
    refine then_n ?_
    refine ⟨H.subX, ?_⟩
    refine da (by kernel_rfl) ?_
    refine then_n ?_
    refine sq ?_
    refine dr (by kernel_rfl) ?_
    have H := H.drew
    refine hold (fun w' => SH w [b] w' [⟨b2, .cells p.cells.toArray 59 (0, 0), true⟩]) [] ?_
    refine tk (i := 0) rfl (by kernel_rfl) rfl (H.subX) (fun w' H => r_mv (v := .slice _ _ _) rfl) ?_
    refine tk (i := 1) rfl (by kernel_rfl) rfl (H.subX) (fun w' H => r_mv (v := .slice _ _ _) rfl) ?_
    refine tk (i := 2) rfl (by kernel_rfl) rfl (H.subX) (fun w' H => r_mv (v := .slice _ _ _) rfl) ?_
    refine tk (i := 3) rfl (by kernel_rfl) rfl (H.subX) (fun w' H => r_fa rfl fo59_5) ?_
    refine tk (i := 4) rfl (by kernel_rfl) rfl (H.subX) (fun w' H => r_iy rfl rfl Tryd.underlying57 sz5_1 (by omega)) ?_
    refine tk (i := 5) rfl (by kernel_rfl) rfl (H.subX) (fun w' H => r_ld H rfl sc5 rfl) ?_
    refine tk (i := 6) rfl (by kernel_rfl) rfl (H.subX) (fun w' H => r_fa rfl fo59_5) ?_
    refine tk (i := 7) rfl (by kernel_rfl) rfl (H.subX) (fun w' H => r_iy rfl rfl Tryd.underlying57 sz5_1 (by omega)) ?_
    refine tk (i := 8) rfl (by kernel_rfl) rfl (H.subX) (fun w' H => r_ld H rfl sc5 rfl) ?_
    refine tk (i := 9) rfl (by kernel_rfl) rfl (H.subX) (fun w' H => r_fa rfl fo59_5) ?_
    refine tk (i := 10) rfl (by kernel_rfl) rfl (H.subX) (fun w' H => r_iy rfl rfl Tryd.underlying57 sz5_1 (by omega)) ?_
    refine tk (i := 11) rfl (by kernel_rfl) rfl (H.subX) (fun w' H => r_ld H rfl sc5 rfl) ?_
    refine tk (i := 12) rfl (by kernel_rfl) rfl (H.subX) (fun w' H => r_ia rfl rfl Tryd.underlying30 sz5_1 (by omega)) ?_
    refine fk (i := 13) (by kernel_rfl) rfl rfl rfl ?_
    refine stb H rfl rfl sc5 (by omega) (by first | decide | (simp only [List.length_set, List.length_cons, List.length_nil, List.length_replicate, List.length_append, Bs_length]; omega) | omega) (by omega) ?_
    clear H; intro w11 H _
    refine nl ?_
    refine then_n ?_
    refine ⟨H.subX, ?_⟩
    refine tk (i := 14) rfl (by kernel_rfl) rfl (H.subX) (fun w' H => r_ia rfl rfl Tryd.underlying30 sz5_1 (by omega)) ?_
    refine fk (i := 15) (by kernel_rfl) rfl rfl rfl ?_
    refine stb H rfl rfl sc5 (by omega) (by first | decide | (simp only [List.length_set, List.length_cons, List.length_nil, List.length_replicate, List.length_append, Bs_length]; omega) | omega) (by omega) ?_
    clear H; intro w12 H _
    refine nl ?_
    refine then_n ?_
    refine ⟨H.subX, ?_⟩
    refine tk (i := 16) rfl (by kernel_rfl) rfl (H.subX) (fun w' H => r_ia rfl rfl Tryd.underlying30 sz5_1 (by omega)) ?_
    refine fk (i := 17) (by kernel_rfl) rfl rfl rfl ?_
    refine stb H rfl rfl sc5 (by omega) (by first | decide | (simp only [List.length_set, List.length_cons, List.length_nil, List.length_replicate, List.length_append, Bs_length]; omega) | omega) (by omega) ?_
    clear H; intro w13 H _
    refine nl ?_
    refine then_n ?_
    refine ⟨H.subX, ?_⟩
    refine da (by kernel_rfl) ?_
    refine then_n ?_
    refine sq ?_
    refine dr (by kernel_rfl) ?_
    have H := H.drew
    refine hold (fun w' => SH w [b] w' [⟨b2, .cells p.cells.toArray 59 (0, 0), true⟩]) [] ?_
    refine tk (i := 0) rfl (by kernel_rfl) rfl (H.subX) (fun w' H => r_mv (v := .slice _ _ _) rfl) ?_
    refine tk (i := 1) rfl (by kernel_rfl) rfl (H.subX) (fun w' H => r_sllh rfl rfl rfl Tryd.underlying30 sz5_1 (by first | trivial | omega | (simp; omega))) ?_
    refine tk (i := 2) rfl (by kernel_rfl) rfl (H.subX) (fun w' H => r_fa rfl fo59_3) ?_
    refine tk (i := 3) rfl (by kernel_rfl) rfl (H.subX) (fun w' H => r_ld H rfl sc53 rfl) ?_
    refine tk (i := 4) rfl (by kernel_rfl) rfl (H.subX) (fun w' H => r_cvi rfl rfl Tryd.underlying28 (by first | exact w_u64 (by omega) | exact w_u64 (rng_u64 _) | exact m_u64 _)) ?_
    refine fk (i := 5) (by kernel_rfl) rfl rfl rfl ?_
    refine cl ca43 (c_putLe _ _ _ _ _ _ _ _ H.look (by first | omega | ((try simp only [pAt_length, leB_len, gB_len, List.length_set, List.length_replicate]); omega)) (by omega)) rfl ?_
    rintro _ w14 ⟨rfl, hlen, F, hnew⟩
    replace H := H.put F hnew; clear F hnew
    refine nl ?_
    refine then_n ?_
    refine ⟨H.subX, ?_⟩
    refine da (by kernel_rfl) ?_
    refine then_n ?_
    refine dr (by kernel_rfl) ?_
    have H := H.drew
    refine hold (fun w' => SH w [b] w' [⟨b2, .cells p.cells.toArray 59 (0, 0), true⟩]) [] ?_
    refine tk (i := 0) rfl (by kernel_rfl) rfl (H.subX) (fun w' H => r_mv (v := .slice _ _ _) rfl) ?_
    refine tk (i := 1) rfl (by kernel_rfl) rfl (H.subX) (fun w' H => r_sllh rfl rfl rfl Tryd.underlying30 sz5_1 (by first | trivial | omega | (simp; omega))) ?_
    refine tk (i := 2) rfl (by kernel_rfl) rfl (H.subX) (fun w' H => r_fa rfl fo59_4) ?_
    refine tk (i := 3) rfl (by kernel_rfl) rfl (H.subX) (fun w' H => r_ld H rfl sc53 rfl) ?_
    refine tk (i := 4) rfl (by kernel_rfl) rfl (H.subX) (fun w' H => r_cvi rfl rfl Tryd.underlying28 (by first | exact w_u64 (by omega) | exact w_u64 (rng_u64 _) | exact m_u64 _)) ?_
    refine fk (i := 5) (by kernel_rfl) rfl rfl rfl ?_
    refine cl ca43 (c_putLe _ _ _ _ _ _ _ _ H.look (by first | omega | ((try simp only [pAt_length, leB_len, gB_len, List.length_set, List.length_replicate]); omega)) (by omega)) rfl ?_
    rintro _ w15 ⟨rfl, hlen, F, hnew⟩
    replace H := H.put F hnew; clear F hnew
    refine nl ?_
    refine then_n ?_
    refine ⟨H.subX, ?_⟩
    refine da (by kernel_rfl) ?_
    refine in_n ?_
    refine then_n ?_
    refine rg ?_
    refine add rfl rfl (by first | exact w_i64 (by omega) | exact w_i64 (rng_i64 _) | rfl) rfl ?_
    refine mv (v := .int .i64 _) rfl rfl ?_
    refine nl ?_
    refine loop_n ?_
    exact ⟨i + 1, (by (try dsimp only); omega), ⟨by omega, sh_bytes H.drop ((entry_put (X := pAt ds 446 ((ps.take i).flatMap MP.bytes)) (o := 446 + 16 * i) (by omega) (set_set_eq (by omega) (by omega) (by simp [hc2])) (by omega) (by omega) (by omega) (by omega) (by omega) (by omega) (by omega) (by omega) (by omega) (leB_len 4 _) (leB_len 4 _)).trans (entry_at hp (by omega) hd))⟩, (fCX (fN _)), agX⟩
   ·refine sk ?_
    refine then_n ?_
    refine sq ?_
    refine dr (by kernel_rfl) ?_
    have H := H.drew
    refine hold (fun w' => SH w [b] w' [⟨b2, .cells p.cells.toArray 59 (0, 0), true⟩]) [] ?_
    refine tk (i := 0) rfl (by kernel_rfl) rfl (H.subX) (fun w' H => r_mv (v := .slice _ _ _) rfl) ?_
    refine tk (i := 1) rfl (by kernel_rfl) rfl (H.subX) (fun w' H => r_mv (v := .slice _ _ _) rfl) ?_
    refine tk (i := 2) rfl (by kernel_rfl) rfl (H.subX) (fun w' H => r_mv (v := .slice _ _ _) rfl) ?_
    refine tk (i := 3) rfl (by kernel_rfl) rfl (H.subX) (fun w' H => r_mv (v := .slice _ _ _) rfl) ?_
    refine tk (i := 4) rfl (by kernel_rfl) rfl (H.subX) (fun w' H => r_fa rfl fo59_5) ?_
    refine tk (i := 5) rfl (by kernel_rfl) rfl (H.subX) (fun w' H => r_iy rfl rfl Tryd.underlying57 sz5_1 (by omega)) ?_
    refine tk (i := 6) rfl (by kernel_rfl) rfl (H.subX) (fun w' H => r_ld H rfl sc5 rfl) ?_
    refine tk (i := 7) rfl (by kernel_rfl) rfl (H.subX) (fun w' H => r_fa rfl fo59_5) ?_
    refine tk (i := 8) rfl (by kernel_rfl) rfl (H.subX) (fun w' H => r_iy rfl rfl Tryd.underlying57 sz5_1 (by omega)) ?_
    refine tk (i := 9) rfl (by kernel_rfl) rfl (H.subX) (fun w' H => r_ld H rfl sc5 rfl) ?_
    refine tk (i := 10) rfl (by kernel_rfl) rfl (H.subX) (fun w' H => r_fa rfl fo59_5) ?_
    refine tk (i := 11) rfl (by kernel_rfl) rfl (H.subX) (fun w' H => r_iy rfl rfl Tryd.underlying57 sz5_1 (by omega)) ?_
    refine tk (i := 12) rfl (by kernel_rfl) rfl (H.subX) (fun w' H => r_ld H rfl sc5 rfl) ?_
    refine tk (i := 13) rfl (by kernel_rfl) rfl (H.subX) (fun w' H => r_fa rfl fo59_2) ?_
    refine tk (i := 14) rfl (by kernel_rfl) rfl (H.subX) (fun w' H => r_ld H rfl sc5 rfl) ?_
    refine tk (i := 15) rfl (by kernel_rfl) rfl (H.subX) (fun w' H => r_ia rfl rfl Tryd.underlying30 sz5_1 (by omega)) ?_
    refine fk (i := 16) (by kernel_rfl) rfl rfl rfl ?_
    refine stb H rfl rfl sc5 (by omega) (by first | decide | (simp only [List.length_set, List.length_cons, List.length_nil, List.length_replicate, List.length_append, Bs_length]; omega) | omega) (by omega) ?_
    clear H; intro w16 H _
    refine nl ?_
    refine then_n ?_
    refine ⟨H.subX, ?_⟩
    refine tk (i := 17) rfl (by kernel_rfl) rfl (H.subX) (fun w' H => r_ia rfl rfl Tryd.underlying30 sz5_1 (by omega)) ?_
    refine fk (i := 18) (by kernel_rfl) rfl rfl rfl ?_
    refine stb H rfl rfl sc5 (by omega) (by first | decide | (simp only [List.length_set, List.length_cons, List.length_nil, List.length_replicate, List.length_append, Bs_length]; omega) | omega) (by omega) ?_
    clear H; intro w17 H _
    refine nl ?_
    refine then_n ?_
    refine ⟨H.subX, ?_⟩
    refine tk (i := 19) rfl (by kernel_rfl) rfl (H.subX) (fun w' H => r_ia rfl rfl Tryd.underlying30 sz5_1 (by omega)) ?_
    refine fk (i := 20) (by kernel_rfl) rfl rfl rfl ?_
    refine stb H rfl rfl sc5 (by omega) (by first | decide | (simp only [List.length_set, List.length_cons, List.length_nil, List.length_replicate, List.length_append, Bs_length]; omega) | omega) (by omega) ?_
    clear H; intro w18 H _
    refine nl ?_
    refine then_n ?_
    refine ⟨H.subX, ?_⟩
    refine tk (i := 21) rfl (by kernel_rfl) rfl (H.subX) (fun w' H => r_ia rfl rfl Tryd.underlying30 sz5_1 (by omega)) ?_
    refine fk (i := 22) (by kernel_rfl) rfl rfl rfl ?_
    refine stb H rfl rfl sc5 (by omega) (by first | decide | (simp only [List.length_set, List.length_cons, List.length_nil, List.length_replicate, List.length_append, Bs_length]; omega) | omega) (by omega) ?_
    clear H; intro w19 H _
    refine nl ?_
    refine then_n ?_
    refine ⟨H.subX, ?_⟩
    refine da (by kernel_rfl) ?_
    refine then_n ?_
    refine sq ?_
    refine dr (by kernel_rfl) ?_
    have H := H.drew
    refine hold (fun w' => SH w [b] w' [⟨b2, .cells p.cells.toArray 59 (0, 0), true⟩]) [] ?_
    refine tk (i := 0) rfl (by kernel_rfl) rfl (H.subX) (fun w' H => r_mv (v := .slice _ _ _) rfl) ?_
    refine tk (i := 1) rfl (by kernel_rfl) rfl (H.subX) (fun w' H => r_mv (v := .slice _ _ _) rfl) ?_
    refine tk (i := 2) rfl (by kernel_rfl) rfl (H.subX) (fun w' H => r_mv (v := .slice _ _ _) rfl) ?_
    refine tk (i := 3) rfl (by kernel_rfl) rfl (H.subX) (fun w' H => r_fa rfl fo59_5) ?_
    refine tk (i := 4) rfl (by kernel_rfl) rfl (H.subX) (fun w' H => r_iy rfl rfl Tryd.underlying57 sz5_1 (by omega)) ?_
    refine tk (i := 5) rfl (by kernel_rfl) rfl (H.subX) (fun w' H => r_ld H rfl sc5 rfl) ?_
    refine tk (i := 6) rfl (by kernel_rfl) rfl (H.subX) (fun w' H => r_fa rfl fo59_5) ?_
    refine tk (i := 7) rfl (by kernel_rfl) rfl (H.subX) (fun w' H => r_iy rfl rfl Tryd.underlying57 sz5_1 (by omega)) ?_
    refine tk (i := 8) rfl (by kernel_rfl) rfl (H.subX) (fun w' H => r_ld H rfl sc5 rfl) ?_
    refine tk (i := 9) rfl (by kernel_rfl) rfl (H.subX) (fun w' H => r_fa rfl fo59_5) ?_
    refine tk (i := 10) rfl (by kernel_rfl) rfl (H.subX) (fun w' H => r_iy rfl rfl Tryd.underlying57 sz5_1 (by omega)) ?_
    refine tk (i := 11) rfl (by kernel_rfl) rfl (H.subX) (fun w' H => r_ld H rfl sc5 rfl) ?_
    refine tk (i := 12) rfl (by kernel_rfl) rfl (H.subX) (fun w' H => r_ia rfl rfl Tryd.underlying30 sz5_1 (by omega)) ?_
    refine fk (i := 13) (by kernel_rfl) rfl rfl rfl ?_
    refine stb H rfl rfl sc5 (by omega) (by first | decide | (simp only [List.length_set, List.length_cons, List.length_nil, List.length_replicate, List.length_append, Bs_length]; omega) | omega) (by omega) ?_
    clear H; intro w20 H _
    refine nl ?_
    refine then_n ?_
    refine ⟨H.subX, ?_⟩
    refine tk (i := 14) rfl (by kernel_rfl) rfl (H.subX) (fun w' H => r_ia rfl rfl Tryd.underlying30 sz5_1 (by omega)) ?_
    refine fk (i := 15) (by kernel_rfl) rfl rfl rfl ?_
    refine stb H rfl rfl sc5 (by omega) (by first | decide | (simp only [List.length_set, List.length_cons, List.length_nil, List.length_replicate, List.length_append, Bs_length]; omega) | omega) (by omega) ?_
    clear H; intro w21 H _
    refine nl ?_
    refine then_n ?_
    refine ⟨H.subX, ?_⟩
    refine tk (i := 16) rfl (by kernel_rfl) rfl (H.subX) (fun w' H => r_ia rfl rfl Tryd.underlying30 sz5_1 (by omega)) ?_
    refine fk (i := 17) (by kernel_rfl) rfl rfl rfl ?_
    refine stb H rfl rfl sc5 (by omega) (by first | decide | (simp only [List.length_set, List.length_cons, List.length_nil, List.length_replicate, List.length_append, Bs_length]; omega) | omega) (by omega) ?_
    clear H; intro w22 H _
    refine nl ?_
    refine then_n ?_
    refine ⟨H.subX, ?_⟩
    refine da (by kernel_rfl) ?_
    refine then_n ?_
    refine sq ?_
    refine dr (by kernel_rfl) ?_
    have H := H.drew
    refine hold (fun w' => SH w [b] w' [⟨b2, .cells p.cells.toArray 59 (0, 0), true⟩]) [] ?_
    refine tk (i := 0) rfl (by kernel_rfl) rfl (H.subX) (fun w' H => r_mv (v := .slice _ _ _) rfl) ?_
    refine tk (i := 1) rfl (by kernel_rfl) rfl (H.subX) (fun w' H => r_sllh rfl rfl rfl Tryd.underlying30 sz5_1 (by first | trivial | omega | (simp; omega))) ?_
    refine tk (i := 2) rfl (by kernel_rfl) rfl (H.subX) (fun w' H => r_fa rfl fo59_3) ?_
    refine tk (i := 3) rfl (by kernel_rfl) rfl (H.subX) (fun w' H => r_ld H rfl sc53 rfl) ?_
    refine tk (i := 4) rfl (by kernel_rfl) rfl (H.subX) (fun w' H => r_cvi rfl rfl Tryd.underlying28 (by first | exact w_u64 (by omega) | exact w_u64 (rng_u64 _) | exact m_u64 _)) ?_
    refine fk (i := 5) (by kernel_rfl) rfl rfl rfl ?_
    refine cl ca43 (c_putLe _ _ _ _ _ _ _ _ H.look (by first | omega | ((try simp only [pAt_length, leB_len, gB_len, List.length_set, List.length_replicate]); omega)) (by omega)) rfl ?_
    rintro _ w23 ⟨rfl, hlen, F, hnew⟩
    replace H := H.put F hnew; clear F hnew
    refine nl ?_
    refine then_n ?_
    refine ⟨H.subX, ?_⟩
    refine da (by kernel_rfl) ?_
    refine then_n ?_
    refine dr (by kernel_rfl) ?_
    have H := H.drew
    refine hold (fun w' => SH w [b] w' [⟨b2, .cells p.cells.toArray 59 (0, 0), true⟩]) [] ?_
    refine tk (i := 0) rfl (by kernel_rfl) rfl (H.subX) (fun w' H => r_mv (v := .slice _ _ _) rfl) ?_
    refine tk (i := 1) rfl (by kernel_rfl) rfl (H.subX) (fun w' H => r_sllh rfl rfl rfl Tryd.underlying30 sz5_1 (by first | trivial | omega | (simp; omega))) ?_
    refine tk (i := 2) rfl (by kernel_rfl) rfl (H.subX) (fun w' H => r_fa rfl fo59_4) ?_
    refine tk (i := 3) rfl (by kernel_rfl) rfl (H.subX) (fun w' H => r_ld H rfl sc53 rfl) ?_
    refine tk (i := 4) rfl (by kernel_rfl) rfl (H.subX) (fun w' H => r_cvi rfl rfl Tryd.underlying28 (by first | exact w_u64 (by omega) | exact w_u64 (rng_u64 _) | exact m_u64 _)) ?_
    refine fk (i := 5) (by kernel_rfl) rfl rfl rfl ?_
    refine cl ca43 (c_putLe _ _ _ _ _ _ _ _ H.look (by first | omega | ((try simp only [pAt_length, leB_len, gB_len, List.length_set, List.length_replicate]); omega)) (by omega)) rfl ?_
    rintro _ w24 ⟨rfl, hlen, F, hnew⟩
    replace H := H.put F hnew; clear F hnew
    refine nl ?_
    refine then_n ?_
    refine ⟨H.subX, ?_⟩
    refine da (by kernel_rfl) ?_
    refine in_n ?_
    refine then_n ?_
    refine rg ?_
    refine add rfl rfl (by first | exact w_i64 (by omega) | exact w_i64 (rng_i64 _) | rfl) rfl ?_
    refine mv (v := .int .i64 _) rfl rfl ?_
    refine nl ?_
    refine loop_n ?_
    exact ⟨i + 1, (by (try dsimp only); omega), ⟨by omega, sh_bytes H.drop ((entry_put (X := pAt ds 446 ((ps.take i).flatMap MP.bytes)) (o := 446 + 16 * i) (by omega) (set_eq (by omega) (by simp [hc2])) (by omega) (by omega) (by omega) (by omega) (by omega) (by omega) (by omega) (by omega) (by omega) (leB_len 4 _) (leB_len 4 _)).trans (entry_at hp (by omega) hd))⟩, (fCX (fN _)), agX⟩
  ·refine ex ?_
   refine then_e ?_
   refine loop_e ?_
   refine in_hit rfl ?_
   refine then_n ?_
   refine rg ?_
   refine mv (v := .slice _ _ _) rfl rfl ?_
   refine mv (v := .slice _ _ _) rfl rfl ?_
   refine ia rfl rfl Tryd.underlying30 sz5_1 (by omega) rfl ?_
   refine stb H rfl rfl sc5 (by omega) (by first | decide | (simp only [List.length_set, List.length_cons, List.length_nil, List.length_replicate, List.length_append, Bs_length]; omega) | omega) (by omega) ?_
   clear H; intro w25 H _
   refine ia rfl rfl Tryd.underlying30 sz5_1 (by omega) rfl ?_
   refine stb H rfl rfl sc5 (by omega) (by first | decide | (simp only [List.length_set, List.length_cons, List.length_nil, List.length_replicate, List.length_append, Bs_length]; omega) | omega) (by omega) ?_
   clear H; intro w26 H _
   refine nl ?_
   refine fin_n ?_
   have hl : (mbrB ds ps).length = ds.length := by
     unfold mbrB
     exact pAt_len (by rw [List.length_append, flat_len MP.bytes_len, h4]; simp; omega)
   exact ⟨rfl, hl, H.fr, H.look.trans (congrArg (fun l => some (Obj.cells (Bs l).toArray T (0, 0))) (mbr_end h4 hd (by omega)))⟩
set_option maxRecDepth 100000 in
set_option maxHeartbeats 1000000 in
theorem c_bytesEqual (w : World) (A A2 : Option Addr) (n c n2 c2 : Nat) (xs ys : List UInt8) (hx : RB w A n xs) (hy : RB w A2 n2 ys) : Calls Tryd.prog 63 #[.slice A n c, .slice A2 n2 c2] w (Ret fun v w' => v = .bool (decide (xs = ys)) ∧ Fr [] w w') := by
 refine enter (fun ρ => ρ 4) Tryd.func63 rfl rfl rfl (res1 rfl) ?_
 have H := SH.nil w
 refine sq ?_
 refine rg ?_
 refine asg (v := .bool _) rfl rfl ?_
 refine nl ?_
 refine then_n ?_
 refine sq ?_
 refine rg ?_
 refine mv (v := .slice _ _ _) rfl rfl ?_
 refine cvBS rfl (by first | exact hx | exact hy) Tryd.underlying30 Tryd.underlying5 Tryd.underlying9 rfl ?_
 refine mv (v := .slice _ _ _) rfl rfl ?_
 refine cvBS rfl (by first | exact hx | exact hy) Tryd.underlying30 Tryd.underlying5 Tryd.underlying9 rfl ?_
 refine eqlT rfl rfl rfl ?_
 refine asg (v := .bool _) rfl rfl ?_
 refine nl ?_
 refine then_n ?_
 refine rt ?_
 refine fin_r ?_
 exact ⟨rfl, H.fr⟩
end Go.Proofs.YthcaejaaalkglaaDoor.X
/- Walks of functions, printed by a program of this claim. -/
namespace Go.Proofs.YthcaejaaalkglaaDoor.X
set_option linter.unusedVariables false
set_option linter.unusedSimpArgs false
open Go Go.RowKit
namespace PF
theorem fo49_1 : fieldOff Tryd.prog 49 1 = some 1 := by kernel_rfl
theorem fo49_2 : fieldOff Tryd.prog 49 2 = some 2 := by kernel_rfl
theorem fo49_4 : fieldOff Tryd.prog 49 4 = some 4 := by kernel_rfl
theorem fo49_5 : fieldOff Tryd.prog 49 5 = some 5 := by kernel_rfl
theorem fo49_6 : fieldOff Tryd.prog 49 6 = some 6 := by kernel_rfl
theorem fo49_7 : fieldOff Tryd.prog 49 7 = some 7 := by kernel_rfl
theorem sc25 : scalarB Tryd.prog 25 = true := by kernel_rfl
theorem sc28 : scalarB Tryd.prog 28 = true := by kernel_rfl
theorem sc9 : scalarB Tryd.prog 9 = true := by kernel_rfl
end PF
open PF
set_option maxRecDepth 100000 in
set_option maxHeartbeats 1000000 in
theorem c_gptEntry (w : World) (b o n c : Nat) (T : TypeId) (cur : List UInt8) (p : GP) (hb : w.heap[b]? = some (.cells (Bs cur).toArray T (0, 0))) (hn : n = 128) (hc : n ≤ c) (ho : o + n ≤ cur.length) (hp : p.ok) (hf : p.fit) (h36 : (utf16 p.nm).length ≤ 36) : Calls Tryd.prog 42 #[.slice (some ⟨b, o, none⟩) n c, .agg p.cells.toArray] w (Ret fun v w' => v = .tuple #[] ∧ (pAt cur o (entB p)).length = cur.length ∧ Fr [b] w w' ∧ w'.heap[b]? = some (.cells (Bs (pAt cur o (entB p))).toArray T (0, 0))) := by
 refine enter (fun _ => .tuple #[]) Tryd.func42 rfl rfl rfl (res0 rfl) ?_
 have H := SH.rw1 hb
 have hst := hp.st; have hen := hp.en; have hat := hp.att; have hnm := hf.nm
 refine sq ?_
 refine rg ?_
 refine bx (v := .agg _) H rfl rfl rfl ?_
 clear H; intro b1 w1 hb1 H _
 refine nl ?_
 refine then_n ?_
 refine sq ?_
 refine rg ?_
 refine fa rfl fo49_4 rfl ?_
 refine ld H rfl sc9 rfl rfl ?_
 refine cl ca21 (c_guidBytes _ _) rfl ?_
 rintro _ w2 ⟨rfl, F⟩
 replace H := H.keep F; clear F
 refine mv (v := .tuple _) rfl rfl ?_
 refine xt rfl rfl rfl ?_
 refine xt rfl rfl rfl ?_
 refine al H ze45 rfl ?_
 clear H; intro b2 w3 hb2 H _
 refine sa (cs' := Bs (gB p.ty)) H rfl rfl ag45_16 (by rw [Bs_length, gB_len]) (List.all_eq_true.2 Bs_one) (by decide) (by omega) (List.append_nil _) ?_
 clear H; intro w91 H _
 refine asg (v := .bool _) rfl rfl ?_
 refine nl ?_
 refine then_n ?_
 refine sq ?_
 refine rg ?_
 refine fa rfl fo49_6 rfl ?_
 refine ld H rfl sc9 rfl rfl ?_
 refine cl ca21 (c_guidBytes _ _) rfl ?_
 rintro _ w4 ⟨rfl, F⟩
 replace H := H.keep F; clear F
 refine mv (v := .tuple _) rfl rfl ?_
 refine xt rfl rfl rfl ?_
 refine xt rfl rfl rfl ?_
 refine al H ze45 rfl ?_
 clear H; intro b3 w5 hb3 H _
 refine sa (cs' := Bs (gB p.gu)) H rfl rfl ag45_16 (by rw [Bs_length, gB_len]) (List.all_eq_true.2 Bs_one) (by decide) (by omega) (List.append_nil _) ?_
 clear H; intro w92 H _
 refine asg (v := .bool _) rfl rfl ?_
 refine nl ?_
 refine then_n ?_
 refine sq ?_
 refine rg ?_
 refine mv (v := .slice _ _ _) rfl rfl ?_
 refine slY rfl Tryd.underlying45 sz5_1 (by first | trivial | omega | (simp; omega)) rfl ?_
 refine cpP (bs := gB p.ty) H rfl rfl Tryd.underlying30 sz5_1 (RB.allm H (gB_len p.ty)) (by omega) (by first | omega | (rw [pAt_len (by rw [gB_len]; omega)]; omega)) (by omega) rfl ?_
 clear H; intro w6 H _ hlen
 refine nl ?_
 refine then_n ?_
 refine sq ?_
 refine dr (by kernel_rfl) ?_
 have H := H.drew
 refine hold (fun w' => SH w [b] w' [⟨b3, .cells (Bs (gB p.gu)).toArray 45 (0, 0), true⟩, ⟨b2, .cells (Bs (gB p.ty)).toArray 45 (0, 0), true⟩, ⟨b1, .cells p.cells.toArray 49 (0, 0), true⟩]) [] ?_
 refine tk (i := 0) rfl (by kernel_rfl) rfl (H.subX) (fun w' H => r_mv (v := .slice _ _ _) rfl) ?_
 refine tk (i := 1) rfl (by kernel_rfl) rfl (H.subX) (fun w' H => r_sllN (o + 16) (112) (c - 16) rfl rfl Tryd.underlying30 sz5_1 (by omega) (by omega)) ?_
 refine tk (i := 2) rfl (by kernel_rfl) rfl (H.subX) (fun w' H => r_slY rfl Tryd.underlying45 sz5_1 (by first | trivial | omega | (simp; omega))) ?_
 refine fk (i := 3) (by kernel_rfl) rfl rfl rfl ?_
 refine cpP (bs := gB p.gu) H rfl rfl Tryd.underlying30 sz5_1 (RB.allm H (gB_len p.gu)) (by omega) (by first | omega | (rw [pAt_len (by rw [gB_len]; omega)]; omega)) (by omega) rfl ?_
 clear H; intro w7 H _ hlen
 refine nl ?_
 refine then_n ?_
 refine ⟨H.subX, ?_⟩
 refine da (by kernel_rfl) ?_
 refine then_n ?_
 refine sq ?_
 refine dr (by kernel_rfl) ?_
 have H := H.drew
 refine hold (fun w' => SH w [b] w' [⟨b3, .cells (Bs (gB p.gu)).toArray 45 (0, 0), true⟩, ⟨b2, .cells (Bs (gB p.ty)).toArray 45 (0, 0), true⟩, ⟨b1, .cells p.cells.toArray 49 (0, 0), true⟩]) [] ?_
 refine tk (i := 0) rfl (by kernel_rfl) rfl (H.subX) (fun w' H => r_mv (v := .slice _ _ _) rfl) ?_
 refine tk (i := 1) rfl (by kernel_rfl) rfl (H.subX) (fun w' H => r_sllhN (o + 32) (8) (c - 32) rfl rfl rfl Tryd.underlying30 sz5_1 (by omega) (by omega)) ?_
 refine tk (i := 2) rfl (by kernel_rfl) rfl (H.subX) (fun w' H => r_fa rfl fo49_1) ?_
 refine tk (i := 3) rfl (by kernel_rfl) rfl (H.subX) (fun w' H => r_ld H rfl sc28 rfl) ?_
 refine fk (i := 4) (by kernel_rfl) rfl rfl rfl ?_
 refine cl ca43 (c_putLe _ _ _ _ _ _ _ _ H.look (by first | omega | ((try simp only [pAt_length, leB_len, gB_len, List.length_set, List.length_replicate]); omega)) (by omega)) rfl ?_
 rintro _ w8 ⟨rfl, hlen, F, hnew⟩
 replace H := H.put F hnew; clear F hnew
 refine nl ?_
 refine then_n ?_
 refine ⟨H.subX, ?_⟩
 refine da (by kernel_rfl) ?_
 refine then_n ?_
 refine sq ?_
 refine dr (by kernel_rfl) ?_
 have H := H.drew
 refine hold (fun w' => SH w [b] w' [⟨b3, .cells (Bs (gB p.gu)).toArray 45 (0, 0), true⟩, ⟨b2, .cells (Bs (gB p.ty)).toArray 45 (0, 0), true⟩, ⟨b1, .cells p.cells.toArray 49 (0, 0), true⟩]) [] ?_
 refine tk (i := 0) rfl (by kernel_rfl) rfl (H.subX) (fun w' H => r_mv (v := .slice _ _ _) rfl) ?_
 refine tk (i := 1) rfl (by kernel_rfl) rfl (H.subX) (fun w' H => r_sllhN (o + 40) (8) (c - 40) rfl rfl rfl Tryd.underlying30 sz5_1 (by omega) (by omega)) ?_
 refine tk (i := 2) rfl (by kernel_rfl) rfl (H.subX) (fun w' H => r_fa rfl fo49_2) ?_
 refine tk (i := 3) rfl (by kernel_rfl) rfl (H.subX) (fun w' H => r_ld H rfl sc28 rfl) ?_
 refine fk (i := 4) (by kernel_rfl) rfl rfl rfl ?_
 refine cl ca43 (c_putLe _ _ _ _ _ _ _ _ H.look (by first | omega | ((try simp only [pAt_length, leB_len, gB_len, List.length_set, List.length_replicate]); omega)) (by omega)) rfl ?_
 rintro _ w9 ⟨rfl, hlen, F, hnew⟩
 replace H := H.put F hnew; clear F hnew
 refine nl ?_
 refine then_n ?_
 refine ⟨H.subX, ?_⟩
 refine da (by kernel_rfl) ?_
 refine then_n ?_
 refine sq ?_
 refine dr (by kernel_rfl) ?_
 have H := H.drew
 refine hold (fun w' => SH w [b] w' [⟨b3, .cells (Bs (gB p.gu)).toArray 45 (0, 0), true⟩, ⟨b2, .cells (Bs (gB p.ty)).toArray 45 (0, 0), true⟩, ⟨b1, .cells p.cells.toArray 49 (0, 0), true⟩]) [] ?_
 refine tk (i := 0) rfl (by kernel_rfl) rfl (H.subX) (fun w' H => r_mv (v := .slice _ _ _) rfl) ?_
 refine tk (i := 1) rfl (by kernel_rfl) rfl (H.subX) (fun w' H => r_sllhN (o + 48) (8) (c - 48) rfl rfl rfl Tryd.underlying30 sz5_1 (by omega) (by omega)) ?_
 refine tk (i := 2) rfl (by kernel_rfl) rfl (H.subX) (fun w' H => r_fa rfl fo49_7) ?_
 refine tk (i := 3) rfl (by kernel_rfl) rfl (H.subX) (fun w' H => r_ld H rfl sc28 rfl) ?_
 refine fk (i := 4) (by kernel_rfl) rfl rfl rfl ?_
 refine cl ca43 (c_putLe _ _ _ _ _ _ _ _ H.look (by first | omega | ((try simp only [pAt_length, leB_len, gB_len, List.length_set, List.length_replicate]); omega)) (by omega)) rfl ?_
 rintro _ w10 ⟨rfl, hlen, F, hnew⟩
 replace H := H.put F hnew; clear F hnew
 refine nl ?_
 refine then_n ?_
 refine ⟨H.subX, ?_⟩
 refine da (by kernel_rfl) ?_
 refine then_n ?_
 refine sq ?_
 refine rg ?_
 refine fa rfl fo49_5 rfl ?_
 refine ld H rfl sc9 rfl rfl ?_
 refine cl ca40 (c_utf16 _ _ (by omega)) rfl ?_
 rintro _ w11 ⟨DU, capU, rfl, O⟩
 replace O := O.join H; clear H; have H := O.sh
 refine lnS rfl Tryd.underlying80 rfl ?_
 refine mv (v := .int .i64 _) rfl rfl ?_
 refine nl ?_
 refine then_n ?_
 refine bk ?_
 refine lpM (α := Nat) [8, 9, 48, 49, 50, 51, 52, 53, 54, 55, 56, 57, 58, 59, 60, 61, 62, 63, 64] (fun i => [(48, .int .i64 (i : Int))]) (fun i w' => i ≤ (utf16 p.nm).length ∧ OR 25 1 w [b] w' [⟨b3, .cells (Bs (gB p.gu)).toArray 45 (0, 0), true⟩, ⟨b2, .cells (Bs (gB p.ty)).toArray 45 (0, 0), true⟩, ⟨b1, .cells p.cells.toArray 49 (0, 0), true⟩, ⟨b, .cells (Bs (pAt cur o (entH p ++ ((utf16 p.nm).take i).flatMap (leB 2)))).toArray T (0, 0), true⟩] DU (utf16 p.nm).length capU ((utf16 p.nm).map (Value.int .u16))) (fun i => (utf16 p.nm).length - i) 0 ?_ (fCX (fN _)) ?_
 ·exact ⟨by omega, by rw [ent_head (by omega)] at O; rw [List.take_zero, List.flatMap_nil, List.append_nil]; exact O⟩
 ·rintro i ρx w12 ⟨hi, O⟩
  have H := O.sh
  have hel := entH_len p
  refine sq ?_
  refine rg ?_
  refine lss rfl rfl rfl ?_
  refine nl ?_
  refine then_n ?_
  refine sq ?_
  refine cd rfl (fun hc1 => ?_) (fun hc1 => ?_)
  ·obtain ⟨u, hu⟩ : ∃ u, (utf16 p.nm)[i]? = some u := ⟨_, List.getElem?_eq_getElem (by omega)⟩
   have hur := utf16_rng _ _ (Nat.le_refl _) u (List.mem_of_getElem? hu)
   obtain ⟨ad, rfl⟩ := O.some_of (by omega)
   have hcell := O.one (v := .int .u16 u) (by rw [List.getElem?_map, hu]; rfl)
   refine sk ?_
   refine then_n ?_
   refine sq ?_
   refine bk ?_
   refine sq ?_
   refine rg ?_
   refine mv (v := .int .i64 _) rfl rfl ?_
   refine iBN (ad.add i) rfl rfl Tryd.underlying80 sz25_1 (by omega) (by simp) rfl ?_
   refine lc rfl (by first | assumption | exact H.fr.cell (by assumption) (by simp)) sc25 rfl ?_
   refine asg (v := .int .i64 _) rfl rfl ?_
   refine asg (v := .int .u16 _) rfl rfl ?_
   refine nl ?_
   refine then_n ?_
   refine rg ?_
   refine mv (v := .slice _ _ _) rfl rfl ?_
   refine mv (v := .int .i64 _) rfl rfl ?_
   refine mul rfl rfl (by first | exact w_i64 (by omega) | exact w_i64 (rng_i64 _) | rfl) rfl ?_
   refine add rfl rfl (by first | exact w_i64 (by omega) | exact w_i64 (rng_i64 _) | rfl) rfl ?_
   refine mv (v := .int .i64 _) rfl rfl ?_
   refine mul rfl rfl (by first | exact w_i64 (by omega) | exact w_i64 (rng_i64 _) | rfl) rfl ?_
   refine add rfl rfl (by first | exact w_i64 (by omega) | exact w_i64 (rng_i64 _) | rfl) rfl ?_
   refine sllhN (o + (56 + 2 * i)) (2) (c - (56 + 2 * i)) rfl rfl rfl Tryd.underlying30 sz5_1 (by omega) (by omega) rfl ?_
   refine mv (v := .int .u16 _) rfl rfl ?_
   refine cvi rfl rfl Tryd.underlying28 (by first | exact w_u64 (by omega) | exact w_u64 (rng_u64 _) | exact m_u64 _) rfl ?_
   refine cl ca43 (c_putLe _ _ _ _ _ _ _ _ H.look (by (try simp only [pAt_length]); omega) (by omega)) rfl ?_
   rintro _ w13 ⟨rfl, hlen, F, hnew⟩
   replace H := H.put F hnew; replace O := O.put F hnew; clear F hnew
   refine nl ?_
   refine in_n ?_
   refine then_n ?_
   refine rg ?_
   refine add rfl rfl (by first | exact w_i64 (by omega) | exact w_i64 (rng_i64 _) | rfl) rfl ?_
   refine mv (v := .int .i64 _) rfl rfl ?_
   refine nl ?_
   refine loop_n ?_
   exact ⟨i + 1, (by (try dsimp only); omega), ⟨by omega, by rw [← ent_unit (by omega) h36 hu]; exact O⟩, (fCX (fN _)), agX⟩
  ·refine ex ?_
   refine then_e ?_
   refine loop_e ?_
   refine in_hit rfl ?_
   refine fin_n ?_
   obtain rfl : i = (utf16 p.nm).length := by omega
   have e := O.sh.look (b := b)
   rw [List.take_length] at e
   exact ⟨rfl, pAt_len (by rw [entB_len]; omega), O.sh.fr, e⟩
end Go.Proofs.YthcaejaaalkglaaDoor.X
/- Walks of functions, printed by a program of this claim. -/
namespace Go.Proofs.YthcaejaaalkglaaDoor.X
set_option linter.unusedVariables false
set_option linter.unusedSimpArgs false
open Go Go.RowKit
namespace PF
theorem ag24_5 : aggB Tryd.prog 24 5 = true := by kernel_rfl
theorem ag49_8 : aggB Tryd.prog 49 8 = true := by kernel_rfl
theorem bo57 : buildOK Tryd.prog 57 = true := by kernel_rfl
theorem bo59 : buildOK Tryd.prog 59 = true := by kernel_rfl
theorem bo60 : buildOK Tryd.prog 60 = true := by kernel_rfl
theorem ca20 : callable Tryd.prog 20 = true := by kernel_rfl
theorem ca26 : callable Tryd.prog 26 = true := by kernel_rfl
theorem ca27 : callable Tryd.prog 27 = true := by kernel_rfl
theorem ca28 : callable Tryd.prog 28 = true := by kernel_rfl
theorem ca42 : callable Tryd.prog 42 = true := by kernel_rfl
theorem ca44 : callable Tryd.prog 44 = true := by kernel_rfl
theorem fo24_0 : fieldOff Tryd.prog 24 0 = some 0 := by kernel_rfl
theorem fo24_1 : fieldOff Tryd.prog 24 1 = some 1 := by kernel_rfl
theorem fo24_2 : fieldOff Tryd.prog 24 2 = some 2 := by kernel_rfl
theorem fo24_3 : fieldOff Tryd.prog 24 3 = some 3 := by kernel_rfl
theorem fo49_0 : fieldOff Tryd.prog 49 0 = some 0 := by kernel_rfl
theorem pl57_0 : placeOf Tryd.prog 57 0 = some (0, 1) := by kernel_rfl
theorem pl57_1 : placeOf Tryd.prog 57 1 = some (1, 1) := by kernel_rfl
theorem pl57_2 : placeOf Tryd.prog 57 2 = some (2, 1) := by kernel_rfl
theorem pl57_3 : placeOf Tryd.prog 57 3 = some (3, 1) := by kernel_rfl
theorem pl57_4 : placeOf Tryd.prog 57 4 = some (4, 1) := by kernel_rfl
theorem pl57_5 : placeOf Tryd.prog 57 5 = some (5, 1) := by kernel_rfl
theorem pl59_2 : placeOf Tryd.prog 59 2 = some (2, 1) := by kernel_rfl
theorem pl59_3 : placeOf Tryd.prog 59 3 = some (3, 1) := by kernel_rfl
theorem pl59_4 : placeOf Tryd.prog 59 4 = some (4, 1) := by kernel_rfl
theorem pl59_5 : placeOf Tryd.prog 59 5 = some (5, 6) := by kernel_rfl
theorem pl60_0 : placeOf Tryd.prog 60 0 = some (0, 11) := by kernel_rfl
theorem sc22 : scalarB Tryd.prog 22 = true := by kernel_rfl
theorem sz49_8 : sizeB Tryd.prog 49 8 = true := by kernel_rfl
theorem ze49 : zeroL Tryd.prog 49 = some [.int .i64 0, .int .u64 0, .int .u64 0, .int .u64 0, .string ⟨#[]⟩, .string ⟨#[]⟩, .string ⟨#[]⟩, .int .u64 0] := by kernel_rfl
theorem ze57 : zeroL Tryd.prog 57 = some [.int .u8 0, .int .u8 0, .int .u8 0, .int .u8 0, .int .u8 0, .int .u8 0] := by kernel_rfl
theorem ze60 : zeroL Tryd.prog 60 = some [.int .i64 0, .bool false, .int .u8 0, .int .u32 0, .int .u32 0, .int .u8 0, .int .u8 0, .int .u8 0, .int .u8 0, .int .u8 0, .int .u8 0, .int .i64 0, .bool false, .int .u8 0, .int .u32 0, .int .u32 0, .int .u8 0, .int .u8 0, .int .u8 0, .int .u8 0, .int .u8 0, .int .u8 0, .int .i64 0, .bool false, .int .u8 0, .int .u32 0, .int .u32 0, .int .u8 0, .int .u8 0, .int .u8 0, .int .u8 0, .int .u8 0, .int .u8 0, .int .i64 0, .bool false, .int .u8 0, .int .u32 0, .int .u32 0, .int .u8 0, .int .u8 0, .int .u8 0, .int .u8 0, .int .u8 0, .int .u8 0] := by kernel_rfl
end PF
open PF
set_option maxRecDepth 100000 in
set_option maxHeartbeats 1000000 in
theorem c_gptArray (w : World) (D : Option Addr) (m c : Nat) (gu : List UInt8) (pr rc : Bool) (ps : List GP) (hq : RG w D m c ps) (hm : m ≤ 200) (hf : ∀ p ∈ ps, p.fit ∧ p.fits) : Calls Tryd.prog 26 #[.agg (gtCells D m c 512 gu pr rc).toArray] w (Ret fun v w' => ∃ b, v = .slice (some ⟨b, 0, none⟩) 16384 16384 ∧ w.heap.size ≤ b ∧ w'.heap[b]? = some (.cells (Bs (arrB ps)).toArray 5 (0, 0)) ∧ Fr [] w w') := by
 refine enter (fun ρ => ρ 2) Tryd.func26 rfl rfl rfl (res1 rfl) ?_
 have H := SH.nil w
 have hql := hq.len
 refine sq ?_
 refine rg ?_
 refine bx (v := .agg _) H rfl rfl rfl ?_
 clear H; intro b1 w1 hb1 H _
 refine asg (v := .slice _ _ _) rfl rfl ?_
 refine nl ?_
 refine then_n ?_
 refine sq ?_
 refine rg ?_
 refine mkB H rfl rfl Tryd.underlying30 mi5 (by omega) (by omega) (by omega) (by omega) rfl ?_
 clear H; intro b2 w2 hb2 H _
 refine asg (v := .slice _ _ _) rfl rfl ?_
 refine nl ?_
 refine then_n ?_
 refine sq ?_
 refine sq ?_
 refine rg ?_
 refine fa rfl fo24_0 rfl ?_
 refine ld H rfl sc22 rfl rfl ?_
 refine lnS rfl Tryd.underlying22 rfl ?_
 refine mv (v := .int .i64 _) rfl rfl ?_
 refine nl ?_
 refine then_n ?_
 refine bk ?_
 refine lpM (α := Nat) [5, 10, 11, 12, 13, 14, 15, 16, 17, 18, 19, 20, 21, 22, 23, 24, 25, 26, 27, 28, 29, 30, 31, 32, 33] (fun i => [(10, .int .i64 (i : Int))]) (fun i w' => i ≤ m ∧ SH w [] w' [⟨b2, .cells (Bs ((ps.take i).foldl arrP (List.replicate 16384 0))).toArray 5 (0, 0), true⟩, ⟨b1, .cells (gtCells D m c 512 gu pr rc).toArray 24 (0, 0), true⟩]) (fun i => m - i) 0 ?_ (fCX (fN _)) ?_
 ·exact ⟨by omega, H⟩
 ·rintro i ρx w3 ⟨hi, H⟩
  refine sq ?_
  refine rg ?_
  refine lss rfl rfl rfl ?_
  refine nl ?_
  refine then_n ?_
  refine sq ?_
  refine cd rfl (fun hc1 => ?_) (fun hc1 => ?_)
  ·obtain ⟨p, hpi⟩ : ∃ p, ps[i]? = some p := ⟨_, List.getElem?_eq_getElem (by omega)⟩
   obtain ⟨ad, rfl⟩ := hq.some_of (by omega)
   have hpo := hq.ok p (List.mem_of_getElem? hpi)
   obtain ⟨hpf, hp1, hp2, hp36⟩ := hf p (List.mem_of_getElem? hpi)
   have hal : ((ps.take i).foldl arrP (List.replicate 16384 0)).length = 16384 := foldl_arr_len _ _ List.length_replicate fun q hq => (hf q (List.mem_of_mem_take hq)).2
   refine sk ?_
   refine then_n ?_
   refine sq ?_
   refine bk ?_
   refine sq ?_
   refine rg ?_
   refine iBN (ad.add (i * 8)) rfl rfl Tryd.underlying22 sz49_8 (by omega) (by simp) rfl ?_
   refine lw (vs := p.cells) rfl ag49_8 rfl (fun j v h => H.fr.cell (hq.elem hpi j v h) (by simp)) rfl ?_
   refine al H ze49 rfl ?_
   clear H; intro b3 w4 hb3 H _
   refine sa (cs' := p.cells) H rfl rfl ag49_8 rfl rfl (by decide) (by omega) rfl ?_
   clear H; intro w35 H _
   refine nl ?_
   refine then_n ?_
   refine sq ?_
   refine rg ?_
   refine fa rfl fo49_0 rfl ?_
   refine ld H rfl sc3 rfl rfl ?_
   refine geq rfl rfl rfl ?_
   refine mv (v := .bool _) rfl rfl ?_
   refine spT (t := 17) rfl (by omega) ?_
   refine gy rfl ?_
   refine fa rfl fo49_0 rfl ?_
   refine gy rfl ?_
   refine ld H rfl sc3 rfl rfl ?_
   refine gy rfl ?_
   refine leq rfl rfl rfl ?_
   refine pkT (v := .bool _) rfl rfl rfl ?_
   refine nl ?_
   refine then_n ?_
   refine cT rfl (by omega) ?_
   refine dr (by kernel_rfl) ?_
   have H := H.drew
   refine hold (fun w' => SH w [] w' [⟨b3, .cells p.cells.toArray 49 (0, 0), true⟩]) [] ?_
   refine tk (i := 0) rfl (by kernel_rfl) rfl (H.subX) (fun w' H => r_mv (v := .slice _ _ _) rfl) ?_
   refine tk (i := 1) rfl (by kernel_rfl) rfl (H.subX) (fun w' H => r_fa rfl fo49_0) ?_
   refine tk (i := 2) rfl (by kernel_rfl) rfl (H.subX) (fun w' H => r_ld H rfl sc3 rfl) ?_
   refine tk (i := 3) rfl (by kernel_rfl) rfl (H.subX) (fun w' H => r_sub rfl rfl (by first | exact w_i64 (by omega) | exact w_i64 (rng_i64 _) | rfl)) ?_
   refine tk (i := 4) rfl (by kernel_rfl) rfl (H.subX) (fun w' H => r_mul rfl rfl (by first | exact w_i64 (by omega) | exact w_i64 (rng_i64 _) | rfl)) ?_
   refine tk (i := 5) rfl (by kernel_rfl) rfl (H.subX) (fun w' H => r_fa rfl fo49_0) ?_
   refine tk (i := 6) rfl (by kernel_rfl) rfl (H.subX) (fun w' H => r_ld H rfl sc3 rfl) ?_
   refine tk (i := 7) rfl (by kernel_rfl) rfl (H.subX) (fun w' H => r_mul rfl rfl (by first | exact w_i64 (by omega) | exact w_i64 (rng_i64 _) | rfl)) ?_
   refine tk (i := 8) rfl (by kernel_rfl) rfl (H.subX) (fun w' H => r_sllhN (128 * (p.ix - 1).toNat) (128) (16384 - 128 * (p.ix - 1).toNat) rfl rfl rfl Tryd.underlying30 sz5_1 (by omega) (by omega)) ?_
   refine tk (i := 9) rfl (by kernel_rfl) rfl (H.subX) (fun w' H => r_la (vs := p.cells) H rfl ag49_8 rfl rfl) ?_
   refine fk (i := 10) (by kernel_rfl) rfl rfl rfl ?_
   refine cl ca42 (c_gptEntry _ b2 _ 128 _ _ _ p (H.look (b := b2)) rfl (by omega) (by omega) hpo hpf hp36) rfl ?_
   rintro _ w5 ⟨rfl, hlen, F, hnew⟩
   replace H := H.put (b := b2) F hnew; clear F hnew
   refine nl ?_
   refine then_n ?_
   refine ⟨H.subX, ?_⟩
   refine da (by kernel_rfl) ?_
   refine in_n ?_
   refine then_n ?_
   refine rg ?_
   refine add rfl rfl (by first | exact w_i64 (by omega) | exact w_i64 (rng_i64 _) | rfl) rfl ?_
   refine mv (v := .int .i64 _) rfl rfl ?_
   refine nl ?_
   refine loop_n ?_
   exact ⟨i + 1, (by (try dsimp only); omega), ⟨by omega, by rw [arr_take hpi]; exact H.subX⟩, (fCX (fN _)), agX⟩
  ·refine ex ?_
   refine then_e ?_
   refine loop_e ?_
   refine in_hit rfl ?_
   refine then_n ?_
   refine sq ?_
   refine rg ?_
   refine mv (v := .slice _ _ _) rfl rfl ?_
   refine asg (v := .slice _ _ _) rfl rfl ?_
   refine nl ?_
   refine then_n ?_
   refine rt ?_
   refine fin_r ?_
   obtain rfl : i = m := by omega
   have e := H.look (b := b2)
   rw [List.take_of_length_le (by omega)] at e
   exact ⟨_, rfl, H.ge, e, H.fr⟩
set_option maxRecDepth 100000 in
set_option maxHeartbeats 1000000 in
theorem c_tabSectors (w : World)  : Calls Tryd.prog 20 #[.int .i64 512] w (Ret fun v w' => v = .int .u64 32 ∧ Fr [] w w') := by
 refine enter (fun ρ => ρ 2) Tryd.func20 rfl rfl rfl (res1 rfl) ?_
 have H := SH.nil w
 refine sq ?_
 refine rg ?_
 refine asg (v := .int .u64 _) rfl rfl ?_
 refine nl ?_
 refine then_n ?_
 refine sq ?_
 refine rg ?_
 refine mv (v := .int .i64 _) rfl rfl ?_
 refine add rfl rfl (by first | exact w_i64 (by omega) | exact w_i64 (rng_i64 _) | rfl) rfl ?_
 refine sub rfl rfl (by first | exact w_i64 (by omega) | exact w_i64 (rng_i64 _) | rfl) rfl ?_
 refine mv (v := .int .i64 _) rfl rfl ?_
 refine quo rfl rfl (by omega) (by omega) (by first | exact w_i64 (by omega) | exact w_i64 (rng_i64 _) | rfl) rfl ?_
 refine cvi rfl rfl Tryd.underlying28 (by first | exact w_u64 (by omega) | exact w_u64 (rng_u64 _) | exact m_u64 _) rfl ?_
 refine asg (v := .int .u64 _) rfl rfl ?_
 refine nl ?_
 refine then_n ?_
 refine rt ?_
 refine fin_r ?_
 exact ⟨rfl, H.fr⟩
set_option maxRecDepth 100000 in
set_option maxHeartbeats 1000000 in
theorem c_gptHeader (w : World) (D : Option Addr) (m c : Nat) (gu : List UInt8) (pr rc : Bool) (a o e n : Int) (B : Option Addr) (k kc : Nat) (arr : List UInt8) (hA : RB w B k arr) (hk : k ≤ 1000000) (ha : 0 ≤ a ∧ a ≤ 1000000000) (ho : 0 ≤ o ∧ o ≤ 1000000000) (he : 0 ≤ e ∧ e ≤ 1000000000) (hn : 34 ≤ n ∧ n ≤ 1000000000) : Calls Tryd.prog 28 #[.agg (gtCells D m c 512 gu pr rc).toArray, .int .u64 a, .int .u64 o, .int .u64 e, .int .u64 n, .slice B k kc] w (Ret fun v w' => ∃ b, v = .slice (some ⟨b, 0, none⟩) 512 512 ∧ w.heap.size ≤ b ∧ w'.heap[b]? = some (.cells (Bs (hdrB a o e n (gB gu) (crc32 arr))).toArray 5 (0, 0)) ∧ Fr [] w w') := by
 refine enter (fun ρ => ρ 12) Tryd.func28 rfl rfl rfl (res1 rfl) ?_
 have H := SH.nil w
 have hcr := crc32_rng arr
 refine sq ?_
 refine rg ?_
 refine bx (v := .agg _) H rfl rfl rfl ?_
 clear H; intro b1 w1 hb1 H _
 refine asg (v := .slice _ _ _) rfl rfl ?_
 refine nl ?_
 refine then_n ?_
 refine sq ?_
 refine rg ?_
 refine fa rfl fo24_1 rfl ?_
 refine ld H rfl sc3 rfl rfl ?_
 refine mkB H rfl rfl Tryd.underlying30 mi5 (by omega) (by omega) (by omega) (by omega) rfl ?_
 clear H; intro b2 w2 hb2 H _
 refine asg (v := .slice _ _ _) rfl rfl ?_
 refine nl ?_
 refine then_n ?_
 refine sq ?_
 refine rg ?_
 have hl0 : (List.replicate (512 : Int).toNat (0 : UInt8)).length = 512 := List.length_replicate
 refine mv (v := .slice _ _ _) rfl rfl ?_
 refine cpT (bs := efiL) H rfl rfl Tryd.underlying30 sz5_1 (by decide) (by omega) (by omega) rfl ?_
 clear H; intro w3 H _ hlen
 refine nl ?_
 refine then_n ?_
 refine sq ?_
 refine rg ?_
 refine mv (v := .slice _ _ _) rfl rfl ?_
 refine sllhN (8) (4) (504) rfl rfl rfl Tryd.underlying30 sz5_1 (by omega) (by omega) rfl ?_
 refine cl ca43 (c_putLe _ _ _ _ _ _ _ _ H.look (by first | omega | ((try simp only [pAt_length, leB_len, gB_len, List.length_set, List.length_replicate]); omega)) (by omega)) rfl ?_
 rintro _ w4 ⟨rfl, hlen, F, hnew⟩
 replace H := H.put F hnew; clear F hnew
 refine nl ?_
 refine then_n ?_
 refine sq ?_
 refine rg ?_
 refine mv (v := .slice _ _ _) rfl rfl ?_
 refine sllhN (12) (4) (500) rfl rfl rfl Tryd.underlying30 sz5_1 (by omega) (by omega) rfl ?_
 refine cl ca43 (c_putLe _ _ _ _ _ _ _ _ H.look (by first | omega | ((try simp only [pAt_length, leB_len, gB_len, List.length_set, List.length_replicate]); omega)) (by omega)) rfl ?_
 rintro _ w5 ⟨rfl, hlen, F, hnew⟩
 replace H := H.put F hnew; clear F hnew
 refine nl ?_
 refine then_n ?_
 refine sq ?_
 refine rg ?_
 refine mv (v := .slice _ _ _) rfl rfl ?_
 refine sllhN (24) (8) (488) rfl rfl rfl Tryd.underlying30 sz5_1 (by omega) (by omega) rfl ?_
 refine mv (v := .int .u64 _) rfl rfl ?_
 refine cl ca43 (c_putLe _ _ _ _ _ _ _ _ H.look (by first | omega | ((try simp only [pAt_length, leB_len, gB_len, List.length_set, List.length_replicate]); omega)) (by omega)) rfl ?_
 rintro _ w6 ⟨rfl, hlen, F, hnew⟩
 replace H := H.put F hnew; clear F hnew
 refine nl ?_
 refine then_n ?_
 refine sq ?_
 refine rg ?_
 refine mv (v := .slice _ _ _) rfl rfl ?_
 refine sllhN (32) (8) (480) rfl rfl rfl Tryd.underlying30 sz5_1 (by omega) (by omega) rfl ?_
 refine mv (v := .int .u64 _) rfl rfl ?_
 refine cl ca43 (c_putLe _ _ _ _ _ _ _ _ H.look (by first | omega | ((try simp only [pAt_length, leB_len, gB_len, List.length_set, List.length_replicate]); omega)) (by omega)) rfl ?_
 rintro _ w7 ⟨rfl, hlen, F, hnew⟩
 replace H := H.put F hnew; clear F hnew
 refine nl ?_
 refine then_n ?_
 refine sq ?_
 refine dr (by kernel_rfl) ?_
 have H := H.drew
 refine hold (fun w' => SH w [] w' [⟨b1, .cells (gtCells D m c 512 gu pr rc).toArray 24 (0, 0), true⟩]) [] ?_
 refine tk (i := 0) rfl (by kernel_rfl) rfl (H.subX) (fun w' H => r_mv (v := .slice _ _ _) rfl) ?_
 refine tk (i := 1) rfl (by kernel_rfl) rfl (H.subX) (fun w' H => r_sllhN (40) (8) (472) rfl rfl rfl Tryd.underlying30 sz5_1 (by omega) (by omega)) ?_
 refine tk (i := 2) rfl (by kernel_rfl) rfl (H.subX) (fun w' H => r_fa rfl fo24_1) ?_
 refine tk (i := 3) rfl (by kernel_rfl) rfl (H.subX) (fun w' H => r_ld H rfl sc3 rfl) ?_
 refine fk (i := 4) (by kernel_rfl) rfl rfl rfl ?_
 refine cl ca20 (c_tabSectors _) rfl ?_
 rintro _ w8 ⟨rfl, F⟩
 replace H := H.keep F; clear F
 refine nl ?_
 refine then_n ?_
 refine ⟨H.subX, ?_⟩
 refine tk (i := 5) rfl (by kernel_rfl) rfl (H.subX) (fun w' H => r_add (c := 34) rfl rfl (by decide)) ?_
 refine fk (i := 6) (by kernel_rfl) rfl rfl rfl ?_
 refine cl ca43 (c_putLe _ _ _ _ _ _ _ _ H.look (by first | omega | ((try simp only [pAt_length, leB_len, gB_len, List.length_set, List.length_replicate]); omega)) (by omega)) rfl ?_
 rintro _ w9 ⟨rfl, hlen, F, hnew⟩
 replace H := H.put F hnew; clear F hnew
 refine nl ?_
 refine then_n ?_
 refine ⟨H.subX, ?_⟩
 refine da (by kernel_rfl) ?_
 refine then_n ?_
 refine sq ?_
 refine dr (by kernel_rfl) ?_
 have H := H.drew
 refine hold (fun w' => SH w [] w' [⟨b1, .cells (gtCells D m c 512 gu pr rc).toArray 24 (0, 0), true⟩]) [] ?_
 refine tk (i := 0) rfl (by kernel_rfl) rfl (H.subX) (fun w' H => r_mv (v := .slice _ _ _) rfl) ?_
 refine tk (i := 1) rfl (by kernel_rfl) rfl (H.subX) (fun w' H => r_sllhN (48) (8) (464) rfl rfl rfl Tryd.underlying30 sz5_1 (by omega) (by omega)) ?_
 refine tk (i := 2) rfl (by kernel_rfl) rfl (H.subX) (fun w' H => r_mv (v := .int .u64 _) rfl) ?_
 refine tk (i := 3) rfl (by kernel_rfl) rfl (H.subX) (fun w' H => r_sub rfl rfl (by first | exact w_u64 (by omega) | exact w_u64 (rng_u64 _) | exact m_u64 _)) ?_
 refine tk (i := 4) rfl (by kernel_rfl) rfl (H.subX) (fun w' H => r_fa rfl fo24_1) ?_
 refine tk (i := 5) rfl (by kernel_rfl) rfl (H.subX) (fun w' H => r_ld H rfl sc3 rfl) ?_
 refine fk (i := 6) (by kernel_rfl) rfl rfl rfl ?_
 refine cl ca20 (c_tabSectors _) rfl ?_
 rintro _ w10 ⟨rfl, F⟩
 replace H := H.keep F; clear F
 refine nl ?_
 refine then_n ?_
 refine ⟨H.subX, ?_⟩
 refine tk (i := 7) rfl (by kernel_rfl) rfl (H.subX) (fun w' H => r_sub (c := n - 34) rfl rfl (by rw [w_u64 (by omega)]; omega)) ?_
 refine fk (i := 8) (by kernel_rfl) rfl rfl rfl ?_
 refine cl ca43 (c_putLe _ _ _ _ _ _ _ _ H.look (by first | omega | ((try simp only [pAt_length, leB_len, gB_len, List.length_set, List.length_replicate]); omega)) (by omega)) rfl ?_
 rintro _ w11 ⟨rfl, hlen, F, hnew⟩
 replace H := H.put F hnew; clear F hnew
 refine nl ?_
 refine then_n ?_
 refine ⟨H.subX, ?_⟩
 refine da (by kernel_rfl) ?_
 refine then_n ?_
 refine sq ?_
 refine rg ?_
 refine fa rfl fo24_2 rfl ?_
 refine ld H rfl sc9 rfl rfl ?_
 refine cl ca21 (c_guidBytes _ _) rfl ?_
 rintro _ w12 ⟨rfl, F⟩
 replace H := H.keep F; clear F
 refine mv (v := .tuple _) rfl rfl ?_
 refine xt rfl rfl rfl ?_
 refine xt rfl rfl rfl ?_
 refine al H ze45 rfl ?_
 clear H; intro b3 w13 hb3 H _
 refine sa (cs' := Bs (gB gu)) H rfl rfl ag45_16 (by rw [Bs_length, gB_len]) (List.all_eq_true.2 Bs_one) (by decide) (by omega) (List.append_nil _) ?_
 clear H; intro w91 H _
 refine asg (v := .bool _) rfl rfl ?_
 refine nl ?_
 refine then_n ?_
 refine sq ?_
 refine dr (by kernel_rfl) ?_
 have H := H.drew
 refine hold (fun w' => SH w [] w' [⟨b1, .cells (gtCells D m c 512 gu pr rc).toArray 24 (0, 0), true⟩]) [] ?_
 refine tk (i := 0) rfl (by kernel_rfl) rfl (H.subX) (fun w' H => r_mv (v := .slice _ _ _) rfl) ?_
 refine tk (i := 1) rfl (by kernel_rfl) rfl (H.subX) (fun w' H => r_sllhN (56) (16) (456) rfl rfl rfl Tryd.underlying30 sz5_1 (by omega) (by omega)) ?_
 refine tk (i := 2) rfl (by kernel_rfl) rfl (H.subX) (fun w' H => r_slY rfl Tryd.underlying45 sz5_1 (by first | trivial | omega | (simp; omega))) ?_
 refine fk (i := 3) (by kernel_rfl) rfl rfl rfl ?_
 refine cpP (bs := gB gu) H rfl rfl Tryd.underlying30 sz5_1 (RB.allm H (gB_len gu)) (by omega) (by first | omega | ((try simp only [pAt_length, leB_len, gB_len, List.length_set, List.length_replicate]); omega)) (by omega) rfl ?_
 clear H; intro w14 H _ hlen
 refine nl ?_
 refine then_n ?_
 refine ⟨H.subX, ?_⟩
 refine da (by kernel_rfl) ?_
 refine then_n ?_
 refine sq ?_
 refine rg ?_
 refine mv (v := .slice _ _ _) rfl rfl ?_
 refine sllhN (72) (8) (440) rfl rfl rfl Tryd.underlying30 sz5_1 (by omega) (by omega) rfl ?_
 refine mv (v := .int .u64 _) rfl rfl ?_
 refine cl ca43 (c_putLe _ _ _ _ _ _ _ _ H.look (by first | omega | ((try simp only [pAt_length, leB_len, gB_len, List.length_set, List.length_replicate]); omega)) (by omega)) rfl ?_
 rintro _ w15 ⟨rfl, hlen, F, hnew⟩
 replace H := H.put F hnew; clear F hnew
 refine nl ?_
 refine then_n ?_
 refine sq ?_
 refine rg ?_
 refine mv (v := .slice _ _ _) rfl rfl ?_
 refine sllhN (80) (4) (432) rfl rfl rfl Tryd.underlying30 sz5_1 (by omega) (by omega) rfl ?_
 refine cl ca43 (c_putLe _ _ _ _ _ _ _ _ H.look (by first | omega | ((try simp only [pAt_length, leB_len, gB_len, List.length_set, List.length_replicate]); omega)) (by omega)) rfl ?_
 rintro _ w16 ⟨rfl, hlen, F, hnew⟩
 replace H := H.put F hnew; clear F hnew
 refine nl ?_
 refine then_n ?_
 refine sq ?_
 refine rg ?_
 refine mv (v := .slice _ _ _) rfl rfl ?_
 refine sllhN (84) (4) (428) rfl rfl rfl Tryd.underlying30 sz5_1 (by omega) (by omega) rfl ?_
 refine cl ca43 (c_putLe _ _ _ _ _ _ _ _ H.look (by first | omega | ((try simp only [pAt_length, leB_len, gB_len, List.length_set, List.length_replicate]); omega)) (by omega)) rfl ?_
 rintro _ w17 ⟨rfl, hlen, F, hnew⟩
 replace H := H.put F hnew; clear F hnew
 refine nl ?_
 refine then_n ?_
 refine sq ?_
 refine dr (by kernel_rfl) ?_
 have H := H.drew
 refine hold (fun w' => SH w [] w' [⟨b1, .cells (gtCells D m c 512 gu pr rc).toArray 24 (0, 0), true⟩]) [] ?_
 refine tk (i := 0) rfl (by kernel_rfl) rfl (H.subX) (fun w' H => r_mv (v := .slice _ _ _) rfl) ?_
 refine tk (i := 1) rfl (by kernel_rfl) rfl (H.subX) (fun w' H => r_sllhN (88) (4) (424) rfl rfl rfl Tryd.underlying30 sz5_1 (by omega) (by omega)) ?_
 refine tk (i := 2) rfl (by kernel_rfl) rfl (H.subX) (fun w' H => r_mv (v := .slice _ _ _) rfl) ?_
 refine fk (i := 3) (by kernel_rfl) rfl rfl rfl ?_
 refine cl ca44 (c_specCrc _ _ _ _ _ (hA.keep H.fr) (by omega)) rfl ?_
 rintro _ w18 ⟨rfl, F⟩
 replace H := H.keep F; clear F
 refine nl ?_
 refine then_n ?_
 refine ⟨H.subX, ?_⟩
 refine tk (i := 4) rfl (by kernel_rfl) rfl (H.subX) (fun w' H => r_cvi rfl rfl Tryd.underlying28 (by first | exact w_u64 (by omega) | exact w_u64 (rng_u64 _) | exact m_u64 _)) ?_
 refine fk (i := 5) (by kernel_rfl) rfl rfl rfl ?_
 refine cl ca43 (c_putLe _ _ _ _ _ _ _ _ H.look (by first | omega | ((try simp only [pAt_length, leB_len, gB_len, List.length_set, List.length_replicate]); omega)) (by omega)) rfl ?_
 rintro _ w19 ⟨rfl, hlen, F, hnew⟩
 replace H := H.put F hnew; clear F hnew
 replace H := sh_bytes1 H (hdr_put (gB_len gu))
 have hl9 := hdrS_len (s := 0) (a := a) (o := o) (e := e) (n := n) (c := crc32 arr) (gB_len gu)
 have hl10 : (hdrS 0 a o e n (gB gu) (crc32 arr) ++ List.replicate 420 0).length = 512 := by rw [List.length_append, hl9, List.length_replicate]
 have hcr2 := crc32_rng (hdrS 0 a o e n (gB gu) (crc32 arr))
 refine nl ?_
 refine then_n ?_
 refine ⟨H.subX, ?_⟩
 refine da (by kernel_rfl) ?_
 refine then_n ?_
 refine sq ?_
 refine dr (by kernel_rfl) ?_
 have H := H.drew
 refine hold (fun w' => SH w [] w' [⟨b1, .cells (gtCells D m c 512 gu pr rc).toArray 24 (0, 0), true⟩]) [] ?_
 refine tk (i := 0) rfl (by kernel_rfl) rfl (H.subX) (fun w' H => r_mv (v := .slice _ _ _) rfl) ?_
 refine tk (i := 1) rfl (by kernel_rfl) rfl (H.subX) (fun w' H => r_sllhN (16) (4) (496) rfl rfl rfl Tryd.underlying30 sz5_1 (by omega) (by omega)) ?_
 refine tk (i := 2) rfl (by kernel_rfl) rfl (H.subX) (fun w' H => r_mv (v := .slice _ _ _) rfl) ?_
 refine tk (i := 3) rfl (by kernel_rfl) rfl (H.subX) (fun w' H => r_slh rfl rfl Tryd.underlying30 sz5_1 (by first | trivial | omega | (simp; omega))) ?_
 refine fk (i := 4) (by kernel_rfl) rfl rfl rfl ?_
 refine cl ca44 (c_specCrc _ _ _ _ (hdrS 0 a o e n (gB gu) (crc32 arr)) (by have := RB.of (b := b2) (o := 0) (n := 92) H (by omega); rw [hdr_take (gB_len gu)] at this; exact this) (by decide)) rfl ?_
 rintro _ w20 ⟨rfl, F⟩
 replace H := H.keep F; clear F
 refine nl ?_
 refine then_n ?_
 refine ⟨H.subX, ?_⟩
 refine tk (i := 5) rfl (by kernel_rfl) rfl (H.subX) (fun w' H => r_cvi rfl rfl Tryd.underlying28 (by first | exact w_u64 (by omega) | exact w_u64 (rng_u64 _) | exact m_u64 _)) ?_
 refine fk (i := 6) (by kernel_rfl) rfl rfl rfl ?_
 refine cl ca43 (c_putLe _ _ _ _ _ _ _ _ H.look (by first | omega | ((try simp only [pAt_length, leB_len, gB_len, List.length_set, List.length_replicate]); omega)) (by omega)) rfl ?_
 rintro _ w21 ⟨rfl, hlen, F, hnew⟩
 replace H := H.put F hnew; clear F hnew
 refine nl ?_
 refine then_n ?_
 refine ⟨H.subX, ?_⟩
 refine da (by kernel_rfl) ?_
 refine then_n ?_
 refine sq ?_
 refine rg ?_
 refine mv (v := .slice _ _ _) rfl rfl ?_
 refine asg (v := .slice _ _ _) rfl rfl ?_
 refine nl ?_
 refine then_n ?_
 refine rt ?_
 refine fin_r ?_
 have e0 := H.look (b := b2)
 exact ⟨b2, rfl, H.ge, e0.trans (congrArg (fun l => some (Obj.cells (Bs l).toArray 5 (0, 0))) (hdr_sum (gB_len gu) _)), H.fr⟩
set_option maxRecDepth 100000 in
set_option maxHeartbeats 1000000 in
theorem c_gptEncode (w : World) (b n k : Nat) (T : TypeId) (ds : List UInt8) (D : Option Addr) (m c : Nat) (gu : List UInt8) (rc : Bool) (ps : List GP) (hb : w.heap[b]? = some (.cells (Bs ds).toArray T (0, 0))) (hn : 80 ≤ n ∧ n ≤ 1000) (hk : n * 512 ≤ k) (hd : ds.length = n * 512) (hq : RG w D m c ps) (hm : m ≤ 200) (hf : ∀ p ∈ ps, p.fit ∧ p.fits) : Calls Tryd.prog 11 #[.slice (some ⟨b, 0, none⟩) (n * 512) k, .agg (gtCells D m c 512 gu true rc).toArray] w (Ret fun v w' => v = .tuple #[] ∧ (encB ds n gu ps).length = ds.length ∧ Fr [b] w w' ∧ w'.heap[b]? = some (.cells (Bs (encB ds n gu ps)).toArray T (0, 0))) := by
 refine enter (fun _ => .tuple #[]) Tryd.func11 rfl rfl rfl (res0 rfl) ?_
 have H := SH.rw1 hb
 have hal := arrB_len fun p hp => (hf p hp).2
 refine sq ?_
 refine rg ?_
 refine bx (v := .agg _) H rfl rfl rfl ?_
 clear H; intro b1 w1 hb1 H _
 refine nl ?_
 refine then_n ?_
 refine sq ?_
 refine rg ?_
 rename_i F0
 refine fa rfl fo24_1 rfl ?_
 refine ld H rfl sc3 rfl rfl ?_
 refine cvi rfl rfl Tryd.underlying28 (by first | exact w_u64 (by omega) | exact w_u64 (rng_u64 _) | exact m_u64 _) rfl ?_
 refine asg (v := .int .u64 _) rfl rfl ?_
 refine nl ?_
 refine then_n ?_
 refine sq ?_
 refine rg ?_
 refine mv (v := .slice _ _ _) rfl rfl ?_
 refine lnS rfl Tryd.underlying30 rfl ?_
 refine cvi rfl rfl Tryd.underlying28 (by first | exact w_u64 (by omega) | exact w_u64 (rng_u64 _) | exact m_u64 _) rfl ?_
 refine mv (v := .int .u64 _) rfl rfl ?_
 refine quo (c := (n : Int)) rfl rfl (by omega) (by omega) (by rw [w_u64 (by omega)]; omega) rfl ?_
 refine asg (v := .int .u64 _) rfl rfl ?_
 refine nl ?_
 refine then_n ?_
 refine sq ?_
 refine rg ?_
 refine la H rfl ag24_5 rfl rfl rfl ?_
 refine cl ca26 (c_gptArray _ D m c gu true rc ps (hq.keep F0) (by omega) hf) rfl ?_
 rintro _ w2 ⟨b2, rfl, hb2, ho2, F⟩
 replace H := H.new F hb2 ho2; clear F ho2
 refine asg (v := .slice _ _ _) rfl rfl ?_
 refine nl ?_
 refine then_n ?_
 refine sq ?_
 refine sq ?_
 refine rg ?_
 refine fa rfl fo24_3 rfl ?_
 refine ld H rfl sc4 rfl rfl ?_
 refine nl ?_
 refine then_n ?_
 refine cbT rfl rfl ?_
 refine rg ?_
 refine mv (v := .slice _ _ _) rfl rfl ?_
 refine slh rfl rfl Tryd.underlying30 sz5_1 (by first | trivial | omega | (simp; omega)) rfl ?_
 refine mv (v := .int .u64 _) rfl rfl ?_
 refine sub rfl rfl (by first | exact w_u64 (by omega) | exact w_u64 (rng_u64 _) | exact m_u64 _) rfl ?_
 refine min2 rfl rfl rfl ?_
 refine cvi (c := (n : Int) - 1) rfl rfl Tryd.underlying53 (by rw [w_u32 (by omega)]; omega) rfl ?_
 refine bu (out := ?o1) ze57 bo57 ?f1 rfl ?_
 case f1 =>
  refine FL.one (v := .int .u8 _) rfl pl57_0 rfl (by first | decide | simp) ?_
  refine FL.one (v := .int .u8 _) rfl pl57_1 rfl (by first | decide | simp) ?_
  refine FL.one (v := .int .u8 _) rfl pl57_2 rfl (by first | decide | simp) ?_
  refine FL.one (v := .int .u8 _) rfl pl57_3 rfl (by first | decide | simp) ?_
  refine FL.one (v := .int .u8 _) rfl pl57_4 rfl (by first | decide | simp) ?_
  refine FL.one (v := .int .u8 _) rfl pl57_5 rfl (by first | decide | simp) ?_
  exact FL.nil
 refine bu (out := ?o2) ze59 bo59 ?f2 rfl ?_
 case f2 =>
  refine FL.one (v := .int .u8 _) rfl pl59_2 rfl (by first | decide | simp) ?_
  refine FL.one (v := .int .u32 _) rfl pl59_3 rfl (by first | decide | simp) ?_
  refine FL.one (v := .int .u32 _) rfl pl59_4 rfl (by first | decide | simp) ?_
  refine FL.agg rfl pl59_5 rfl (by first | decide | simp) ?_
  exact FL.nil
 refine bu (out := ?o3) ze60 bo60 ?f3 rfl ?_
 case f3 =>
  refine FL.agg rfl pl60_0 rfl (by first | decide | simp) ?_
  exact FL.nil
 refine cl ca27 (c_mbrEncode _ _ _ _ _ _ (protM n) (H.look (b := b)) (by omega) (by decide) (by omega) rfl (protM_ok (by omega))) rfl ?_
 rintro _ w3 ⟨rfl, hlen, F, hnew⟩
 replace H := H.put (b := b) F hnew; clear F hnew
 refine nl ?_
 refine then_n ?_
 refine sq ?_
 refine dr (by kernel_rfl) ?_
 have H := H.drew
 refine hold (fun w' => SH w [b] w' [⟨b1, .cells (gtCells D m c 512 gu true rc).toArray 24 (0, 0), true⟩]) [] ?_
 refine tk (i := 0) rfl (by kernel_rfl) rfl (H.subX) (fun w' H => r_mv (v := .slice _ _ _) rfl) ?_
 refine tk (i := 1) rfl (by kernel_rfl) rfl (H.subX) (fun w' H => r_mv (v := .int .u64 _) rfl) ?_
 refine tk (i := 2) rfl (by kernel_rfl) rfl (H.subX) (fun w' H => r_sllN (512) (n * 512 - 512) (k - 512) rfl rfl Tryd.underlying30 sz5_1 (by omega) (by omega)) ?_
 refine tk (i := 3) rfl (by kernel_rfl) rfl (H.subX) (fun w' H => r_la H rfl ag24_5 rfl rfl) ?_
 refine tk (i := 4) rfl (by kernel_rfl) rfl (H.subX) (fun w' H => r_mv (v := .int .u64 _) rfl) ?_
 refine tk (i := 5) rfl (by kernel_rfl) rfl (H.subX) (fun w' H => r_sub rfl rfl (by first | exact w_u64 (by omega) | exact w_u64 (rng_u64 _) | exact m_u64 _)) ?_
 refine tk (i := 6) rfl (by kernel_rfl) rfl (H.subX) (fun w' H => r_mv (v := .int .u64 _) rfl) ?_
 refine tk (i := 7) rfl (by kernel_rfl) rfl (H.subX) (fun w' H => r_mv (v := .slice _ _ _) rfl) ?_
 refine fk (i := 8) (by kernel_rfl) rfl rfl rfl ?_
 refine cl ca28 (c_gptHeader _ D m c gu true rc 1 ((n : Int) - 1) 2 (n : Int) (some ⟨b2, 0, none⟩) 16384 16384 (arrB ps) (RB.allm (b := b2) H hal) (by decide) (by omega) (by omega) (by omega) (by omega)) rfl ?_
 rintro _ w4 ⟨b3, rfl, hb3, ho3, F⟩
 replace H := H.new F hb3 ho3; clear F ho3
 refine nl ?_
 refine then_n ?_
 refine ⟨H.subX, ?_⟩
 refine fk (i := 9) (by kernel_rfl) rfl rfl rfl ?_
 refine cpP (bs := (hdrB 1 ((n : Int) - 1) 2 n (gB gu) (crc32 (arrB ps)))) H rfl rfl Tryd.underlying30 sz5_1 (RB.allm H (hdrB_len (gB_len gu))) (by omega) (by omega) (by omega) rfl ?_
 clear H; intro w5 H _ hlen
 refine nl ?_
 refine then_n ?_
 refine ⟨H.subX, ?_⟩
 refine da (by kernel_rfl) ?_
 refine then_n ?_
 refine sq ?_
 refine rg ?_
 refine mv (v := .slice _ _ _) rfl rfl ?_
 refine mv (v := .int .u64 _) rfl rfl ?_
 refine mul rfl rfl (by first | exact w_u64 (by omega) | exact w_u64 (rng_u64 _) | exact m_u64 _) rfl ?_
 refine sllN (1024) (n * 512 - 1024) (k - 1024) rfl rfl Tryd.underlying30 sz5_1 (by omega) (by omega) rfl ?_
 refine mv (v := .slice _ _ _) rfl rfl ?_
 refine cpP (bs := arrB ps) H rfl rfl Tryd.underlying30 sz5_1 (RB.allm H hal) (by omega) (by omega) (by omega) rfl ?_
 clear H; intro w6 H _ hlen
 refine nl ?_
 refine then_n ?_
 refine sq ?_
 refine rg ?_
 refine mv (v := .int .u64 _) rfl rfl ?_
 refine sub rfl rfl (by first | exact w_u64 (by omega) | exact w_u64 (rng_u64 _) | exact m_u64 _) rfl ?_
 refine fa rfl fo24_1 rfl ?_
 refine ld H rfl sc3 rfl rfl ?_
 refine cl ca20 (c_tabSectors _) rfl ?_
 rintro _ w7 ⟨rfl, F⟩
 replace H := H.keep F; clear F
 refine sub (c := (n : Int) - 33) rfl rfl (by rw [w_u64 (by omega)]; omega) rfl ?_
 refine asg (v := .int .u64 _) rfl rfl ?_
 refine nl ?_
 refine then_n ?_
 refine sq ?_
 refine rg ?_
 refine mv (v := .slice _ _ _) rfl rfl ?_
 refine mv (v := .int .u64 _) rfl rfl ?_
 refine mv (v := .int .u64 _) rfl rfl ?_
 refine mul rfl rfl (by first | exact w_u64 (by omega) | exact w_u64 (rng_u64 _) | exact m_u64 _) rfl ?_
 refine sllN ((n - 33) * 512) (n * 512 - (n - 33) * 512) (k - (n - 33) * 512) rfl rfl Tryd.underlying30 sz5_1 (by omega) (by omega) rfl ?_
 refine mv (v := .slice _ _ _) rfl rfl ?_
 refine cpP (bs := arrB ps) H rfl rfl Tryd.underlying30 sz5_1 (RB.allm H hal) (by omega) (by omega) (by omega) rfl ?_
 clear H; intro w8 H _ hlen
 refine nl ?_
 refine then_n ?_
 refine dr (by kernel_rfl) ?_
 have H := H.drew
 refine hold (fun w' => SH w [b] w' [⟨b1, .cells (gtCells D m c 512 gu true rc).toArray 24 (0, 0), true⟩]) [] ?_
 refine tk (i := 0) rfl (by kernel_rfl) rfl (H.subX) (fun w' H => r_mv (v := .slice _ _ _) rfl) ?_
 refine tk (i := 1) rfl (by kernel_rfl) rfl (H.subX) (fun w' H => r_mv (v := .int .u64 _) rfl) ?_
 refine tk (i := 2) rfl (by kernel_rfl) rfl (H.subX) (fun w' H => r_sub rfl rfl (by first | exact w_u64 (by omega) | exact w_u64 (rng_u64 _) | exact m_u64 _)) ?_
 refine tk (i := 3) rfl (by kernel_rfl) rfl (H.subX) (fun w' H => r_mv (v := .int .u64 _) rfl) ?_
 refine tk (i := 4) rfl (by kernel_rfl) rfl (H.subX) (fun w' H => r_mul rfl rfl (by first | exact w_u64 (by omega) | exact w_u64 (rng_u64 _) | exact m_u64 _)) ?_
 refine tk (i := 5) rfl (by kernel_rfl) rfl (H.subX) (fun w' H => r_sllN ((n - 1) * 512) (512) (k - (n - 1) * 512) rfl rfl Tryd.underlying30 sz5_1 (by omega) (by omega)) ?_
 refine tk (i := 6) rfl (by kernel_rfl) rfl (H.subX) (fun w' H => r_la H rfl ag24_5 rfl rfl) ?_
 refine tk (i := 7) rfl (by kernel_rfl) rfl (H.subX) (fun w' H => r_mv (v := .int .u64 _) rfl) ?_
 refine tk (i := 8) rfl (by kernel_rfl) rfl (H.subX) (fun w' H => r_sub rfl rfl (by first | exact w_u64 (by omega) | exact w_u64 (rng_u64 _) | exact m_u64 _)) ?_
 refine tk (i := 9) rfl (by kernel_rfl) rfl (H.subX) (fun w' H => r_mv (v := .int .u64 _) rfl) ?_
 refine tk (i := 10) rfl (by kernel_rfl) rfl (H.subX) (fun w' H => r_mv (v := .int .u64 _) rfl) ?_
 refine tk (i := 11) rfl (by kernel_rfl) rfl (H.subX) (fun w' H => r_mv (v := .slice _ _ _) rfl) ?_
 refine fk (i := 12) (by kernel_rfl) rfl rfl rfl ?_
 refine cl ca28 (c_gptHeader _ D m c gu true rc ((n : Int) - 1) 1 ((n : Int) - 33) (n : Int) (some ⟨b2, 0, none⟩) 16384 16384 (arrB ps) (RB.allm (b := b2) H hal) (by decide) (by omega) (by omega) (by omega) (by omega)) rfl ?_
 rintro _ w9 ⟨b4, rfl, hb4, ho4, F⟩
 replace H := H.new F hb4 ho4; clear F ho4
 refine nl ?_
 refine then_n ?_
 refine ⟨H.subX, ?_⟩
 refine fk (i := 13) (by kernel_rfl) rfl rfl rfl ?_
 refine cpP (bs := (hdrB ((n : Int) - 1) 1 ((n : Int) - 33) n (gB gu) (crc32 (arrB ps)))) H rfl rfl Tryd.underlying30 sz5_1 (RB.allm H (hdrB_len (gB_len gu))) (by omega) (by omega) (by omega) rfl ?_
 clear H; intro w10 H _ hlen
 refine nl ?_
 refine then_n ?_
 refine ⟨H.subX, ?_⟩
 refine da (by kernel_rfl) ?_
 refine fin_n ?_
 exact ⟨rfl, by unfold encB; omega, H.fr, H.look⟩
end Go.Proofs.YthcaejaaalkglaaDoor.X
