/- Walks of functions, printed by a program of this claim. -/
import Derived.Test.YtbldfojecpljoaaProg
import Derived.Test.YtbldfojecpljoaaRuns
import Derived.Test.YtbldfojecpljoaaMapSteps
namespace Go.Proofs.Ytbldfojecpljoaa.X
set_option linter.unusedVariables false
set_option linter.unusedSimpArgs false
open Go Go.RowKit

namespace F1
theorem bo108 : buildOK Try.prog 108 = true := by kernel_rfl
theorem bo110 : buildOK Try.prog 110 = true := by kernel_rfl
theorem bo112 : buildOK Try.prog 112 = true := by kernel_rfl
theorem ca102 : callable Try.prog 102 = true := by kernel_rfl
theorem ca29 : callable Try.prog 29 = true := by kernel_rfl
theorem ca30 : callable Try.prog 30 = true := by kernel_rfl
theorem ca31 : callable Try.prog 31 = true := by kernel_rfl
theorem ca46 : callable Try.prog 46 = true := by kernel_rfl
theorem ca54 : callable Try.prog 54 = true := by kernel_rfl
theorem ca55 : callable Try.prog 55 = true := by kernel_rfl
theorem ca56 : callable Try.prog 56 = true := by kernel_rfl
theorem ca57 : callable Try.prog 57 = true := by kernel_rfl
theorem ca58 : callable Try.prog 58 = true := by kernel_rfl
theorem ca80 : callable Try.prog 80 = true := by kernel_rfl
theorem ca91 : callable Try.prog 91 = true := by kernel_rfl
theorem cc101 : Try.prog.concrete 101 = true := by kernel_rfl
theorem cc103 : Try.prog.concrete 103 = true := by kernel_rfl
theorem cc105 : Try.prog.concrete 105 = true := by kernel_rfl
theorem me101_IsEOC : ∀ (v : Value) (w : World), (method (Try.prog.types.size + Made.depth) 101 v "IsEOC").run Try.prog w = .ok (80, v) w := fun v w => by kernel_rfl
theorem me103_IsEOC : ∀ (v : Value) (w : World), (method (Try.prog.types.size + Made.depth) 103 v "IsEOC").run Try.prog w = .ok (91, v) w := fun v w => by kernel_rfl
theorem me105_IsEOC : ∀ (v : Value) (w : World), (method (Try.prog.types.size + Made.depth) 105 v "IsEOC").run Try.prog w = .ok (102, v) w := fun v w => by kernel_rfl
theorem mi22 : elemInfo Try.prog 22 = some (.int .u32 0, 4) := by kernel_rfl
theorem pl108_0 : placeOf Try.prog 108 0 = some (0, 1) := by kernel_rfl
theorem pl108_1 : placeOf Try.prog 108 1 = some (1, 1) := by kernel_rfl
theorem pl108_3 : placeOf Try.prog 108 3 = some (3, 1) := by kernel_rfl
theorem pl108_4 : placeOf Try.prog 108 4 = some (4, 1) := by kernel_rfl
theorem pl108_5 : placeOf Try.prog 108 5 = some (5, 1) := by kernel_rfl
theorem pl108_6 : placeOf Try.prog 108 6 = some (6, 1) := by kernel_rfl
theorem pl110_0 : placeOf Try.prog 110 0 = some (0, 1) := by kernel_rfl
theorem pl110_1 : placeOf Try.prog 110 1 = some (1, 1) := by kernel_rfl
theorem pl110_2 : placeOf Try.prog 110 2 = some (2, 1) := by kernel_rfl
theorem pl110_3 : placeOf Try.prog 110 3 = some (3, 1) := by kernel_rfl
theorem pl110_4 : placeOf Try.prog 110 4 = some (4, 1) := by kernel_rfl
theorem pl110_5 : placeOf Try.prog 110 5 = some (5, 1) := by kernel_rfl
theorem pl112_0 : placeOf Try.prog 112 0 = some (0, 1) := by kernel_rfl
theorem pl112_1 : placeOf Try.prog 112 1 = some (1, 1) := by kernel_rfl
theorem pl112_2 : placeOf Try.prog 112 2 = some (2, 1) := by kernel_rfl
theorem pl112_3 : placeOf Try.prog 112 3 = some (3, 1) := by kernel_rfl
theorem pl112_4 : placeOf Try.prog 112 4 = some (4, 1) := by kernel_rfl
theorem sc3 : scalarB Try.prog 3 = true := by kernel_rfl
theorem sz3_1 : sizeB Try.prog 3 1 = true := by kernel_rfl
theorem ze108 : zeroL Try.prog 108 = some [.int .u32 0, .int .u32 0, .int .u32 0, .slice none 0 0, .int .u32 0, .int .u32 0, .int .u32 0] := by kernel_rfl
theorem ze110 : zeroL Try.prog 110 = some [.int .u32 0, .int .u32 0, .int .u32 0, .slice none 0 0, .int .u32 0, .int .u32 0] := by kernel_rfl
theorem ze112 : zeroL Try.prog 112 = some [.int .u32 0, .int .u32 0, .slice none 0 0, .int .u32 0, .int .u32 0] := by kernel_rfl
theorem ze3 : zeroL Try.prog 3 = some [.int .i64 0] := by kernel_rfl

end F1
open F1

theorem mask_rng (y : Int) (k : Nat) (m : Int) (hm : (BitVec.ofInt 32 m).toNat = 2 ^ k - 1 ∧ 2 ^ k - 1 ≤ 4294967295 ∧ m = ((2 ^ k - 1 : Nat) : Int)) : 0 ≤ bits .and .u32 y m ∧ bits .and .u32 y m ≤ m := by
  have e : bits .and .u32 y m = IntKind.u32.wrap ((BitVec.ofInt 32 y &&& BitVec.ofInt 32 m).toNat : Int) := rfl
  have h : (BitVec.ofInt 32 y &&& BitVec.ofInt 32 m).toNat ≤ 2 ^ k - 1 := by
    rw [BitVec.toNat_and, hm.1]; exact Nat.and_le_right
  rw [e, w_u32 (by omega)]
  omega
theorem mask_rng12 (y : Int) : 0 ≤ bits .and .u32 y 4095 ∧ bits .and .u32 y 4095 ≤ 4095 := mask_rng y 12 4095 (by decide)
theorem mask_rng16 (y : Int) : 0 ≤ bits .and .u32 y 65535 ∧ bits .and .u32 y 65535 ≤ 65535 := mask_rng y 16 65535 (by decide)
theorem mask_rng32 (y : Int) : 0 ≤ bits .and .u32 y 268435455 ∧ bits .and .u32 y 268435455 ≤ 268435455 := mask_rng y 28 268435455 (by decide)

theorem and8 (y : Nat) : y &&& 268435448 = ((y >>> 3) &&& 33554431) <<< 3 := by
  rw [show (268435448 : Nat) = 33554431 <<< 3 by decide]
  apply Nat.eq_of_testBit_eq
  intro i
  simp only [Nat.testBit_and, Nat.testBit_shiftLeft, Nat.testBit_shiftRight]
  by_cases h : 3 ≤ i
  · simp [h]
  · simp [h]
theorem eoc32 {y : Int} (hy : 0 ≤ y ∧ y ≤ 268435455) : bits .and .u32 y 268435448 = 268435448 ↔ 268435448 ≤ y := by
  have e : bits .and .u32 y 268435448 = IntKind.u32.wrap ((BitVec.ofInt 32 y &&& BitVec.ofInt 32 268435448).toNat : Int) := rfl
  have h : (BitVec.ofInt 32 y &&& BitVec.ofInt 32 268435448).toNat = y.toNat / 8 * 8 := by
    rw [BitVec.toNat_and, show (BitVec.ofInt 32 268435448).toNat = 268435448 by decide, and8, show (33554431 : Nat) = 2 ^ 25 - 1 by decide, Nat.and_two_pow_sub_one_eq_mod, Nat.shiftLeft_eq, Nat.shiftRight_eq_div_pow]
    have : (BitVec.ofInt 32 y).toNat = y.toNat := by rw [BitVec.toNat_ofInt]; omega
    rw [this]; omega
  rw [e, h, w_u32 (by omega)]
  omega

set_option maxRecDepth 100000 in
theorem c_eoc12 (w : World) (b : Nat) (y : Int) : Calls Try.prog 80 #[.pointer (some ⟨b, 0, none⟩), .int .u32 y] w (Ret fun v w' => v = .bool (decide (4088 ≤ y ∧ y ≤ 4095)) ∧ Fr [] w w') := by
  refine enter (fun ρ => ρ 4) Try.func80 rfl rfl rfl (res1 rfl) ?_
  have H := SH.nil w
  refine sq ?_
  refine rg ?_
  refine asg (v := .bool _) rfl rfl ?_
  refine nl ?_
  refine then_n ?_
  refine sq ?_
  refine rg ?_
  refine mv (v := .int .u32 _) rfl rfl ?_
  refine geq rfl rfl rfl ?_
  refine mv (v := .bool _) rfl rfl ?_
  first | refine spd (t := 7) rfl (fun hg1 => ?_) (fun hg1 => ?_) | refine sp (t := 7) rfl (fun hg1 => ?_) (fun hg1 => ?_)   -- guard 1
  · refine gy rfl ?_
    refine mv (v := .int .u32 _) rfl rfl ?_
    refine gy rfl ?_
    refine leq rfl rfl rfl ?_
    refine pkT (v := .bool _) rfl rfl rfl ?_
    refine asg (v := .bool _) rfl rfl ?_
    refine nl ?_
    refine then_n ?_
    refine rt ?_
    refine fin_r ?_
    exact ⟨congrArg Value.bool (decide_eq_decide.2 ⟨fun h => ⟨hg1, h⟩, fun h => h.2⟩), H.fr⟩
  · refine gn rfl rfl ?_
    refine gn rfl rfl ?_
    refine pkF (v := .bool _) rfl rfl rfl ?_
    refine asg (v := .bool _) rfl rfl ?_
    refine nl ?_
    refine then_n ?_
    refine rt ?_
    refine fin_r ?_
    exact ⟨congrArg Value.bool (decide_eq_false (fun h => hg1 h.1)).symm, H.fr⟩

set_option maxRecDepth 100000 in
theorem c_newFat12 (w : World) (a s : Int) (ha : 0 ≤ a ∧ a ≤ 4294967295) (hs : 0 ≤ s ∧ s ≤ 1000000) : Calls Try.prog 57 #[.int .u32 a, .int .u32 s] w (Ret fun v w' => (∃ b, v = .pointer (some ⟨b, 0, none⟩)) ∧ Fr [] w w') := by
  refine enter (fun ρ => ρ 4) Try.func57 rfl rfl rfl (res1 rfl) ?_
  have H := SH.nil w
  refine sq ?_
  refine rg ?_
  refine asg (v := .pointer _) rfl rfl ?_
  refine nl ?_
  refine then_n ?_
  refine sq ?_
  refine rg ?_
  refine mv (v := .int .u32 _) rfl rfl ?_
  refine mul rfl rfl (by first | exact w_u32 (by omega) | exact w_u32 (rng_u32 _) | exact m_u32 _) rfl ?_
  refine quo rfl rfl (by omega) (by omega) (by first | exact w_u32 (by omega) | exact w_u32 (rng_u32 _) | exact m_u32 _) rfl ?_
  refine asg (v := .int .u32 _) rfl rfl ?_
  refine nl ?_
  refine then_n ?_
  refine sq ?_
  refine rg ?_
  refine mv (v := .int .u32 _) rfl rfl ?_
  refine mv (v := .int .u32 _) rfl rfl ?_
  refine add rfl rfl (by first | exact w_u32 (by omega) | exact w_u32 (rng_u32 _) | exact m_u32 _) rfl ?_
  refine mk H rfl rfl Try.underlying106 mi22 (by omega) (by omega) (by omega) (by omega) rfl ?_
  clear H; intro b1 w1 hb1 H _
  refine mv (v := .int .u32 _) rfl rfl ?_
  refine mv (v := .int .u32 _) rfl rfl ?_
  refine bu (out := ?o1) ze110 bo110 ?f1 rfl ?_
  case f1 =>
    refine FL.one (v := .int .u32 _) rfl pl110_0 rfl (by first | decide | simp) ?_
    refine FL.one (v := .int .u32 _) rfl pl110_1 rfl (by first | decide | simp) ?_
    refine FL.one (v := .int .u32 _) rfl pl110_2 rfl (by first | decide | simp) ?_
    refine FL.one (v := .slice _ _ _) rfl pl110_3 rfl (by first | decide | simp) ?_
    refine FL.one (v := .int .u32 _) rfl pl110_4 rfl (by first | decide | simp) ?_
    refine FL.one (v := .int .u32 _) rfl pl110_5 rfl (by first | decide | simp) ?_
    exact FL.nil
  refine bx (v := .agg _) H rfl rfl rfl ?_
  clear H; intro b2 w2 hb2 H _
  refine asg (v := .pointer _) rfl rfl ?_
  refine nl ?_
  refine then_n ?_
  refine rt ?_
  refine fin_r ?_
  exact ⟨⟨_, rfl⟩, H.fr⟩

set_option maxRecDepth 100000 in
theorem c_zz12 (w : World) (a s : Int) (ha : 0 ≤ a ∧ a ≤ 4294967295) (hs : 0 ≤ s ∧ s ≤ 1000000) : Calls Try.prog 54 #[.int .u32 a, .int .u32 s] w (Ret fun v w' => (∃ b, v = .iface 101 (.pointer (some ⟨b, 0, none⟩))) ∧ Fr [] w w') := by
  refine enter (fun ρ => ρ 4) Try.func54 rfl rfl rfl (res1 rfl) ?_
  have H := SH.nil w
  refine sq ?_
  refine rg ?_
  refine asg (v := .nilIface) rfl rfl ?_
  refine nl ?_
  refine then_n ?_
  refine sq ?_
  refine rg ?_
  refine mv (v := .int .u32 _) rfl rfl ?_
  refine mv (v := .int .u32 _) rfl rfl ?_
  refine cl ca57 (c_newFat12 _ _ _ (by omega) (by omega)) rfl ?_
  rintro _ w1 ⟨⟨b1, rfl⟩, F⟩
  replace H := H.keep F; clear F
  refine mi (v := .pointer _) rfl cc101 rfl ?_
  first | refine asg (v := .nilIface) rfl rfl ?_ | refine asg (v := .iface _ _) rfl rfl ?_ | refine asg rfl rfl ?_
  refine nl ?_
  refine then_n ?_
  refine rt ?_
  refine fin_r ?_
  exact ⟨⟨_, rfl⟩, H.fr⟩

set_option maxRecDepth 100000 in
theorem c_eoc16 (w : World) (b : Nat) (y : Int) : Calls Try.prog 91 #[.pointer (some ⟨b, 0, none⟩), .int .u32 y] w (Ret fun v w' => v = .bool (decide (65528 ≤ y ∧ y ≤ 65535)) ∧ Fr [] w w') := by
  refine enter (fun ρ => ρ 4) Try.func91 rfl rfl rfl (res1 rfl) ?_
  have H := SH.nil w
  refine sq ?_
  refine rg ?_
  refine asg (v := .bool _) rfl rfl ?_
  refine nl ?_
  refine then_n ?_
  refine sq ?_
  refine rg ?_
  refine mv (v := .int .u32 _) rfl rfl ?_
  refine geq rfl rfl rfl ?_
  refine mv (v := .bool _) rfl rfl ?_
  first | refine spd (t := 7) rfl (fun hg1 => ?_) (fun hg1 => ?_) | refine sp (t := 7) rfl (fun hg1 => ?_) (fun hg1 => ?_)   -- guard 1
  · refine gy rfl ?_
    refine mv (v := .int .u32 _) rfl rfl ?_
    refine gy rfl ?_
    refine leq rfl rfl rfl ?_
    refine pkT (v := .bool _) rfl rfl rfl ?_
    refine asg (v := .bool _) rfl rfl ?_
    refine nl ?_
    refine then_n ?_
    refine rt ?_
    refine fin_r ?_
    exact ⟨congrArg Value.bool (decide_eq_decide.2 ⟨fun h => ⟨hg1, h⟩, fun h => h.2⟩), H.fr⟩
  · refine gn rfl rfl ?_
    refine gn rfl rfl ?_
    refine pkF (v := .bool _) rfl rfl rfl ?_
    refine asg (v := .bool _) rfl rfl ?_
    refine nl ?_
    refine then_n ?_
    refine rt ?_
    refine fin_r ?_
    exact ⟨congrArg Value.bool (decide_eq_false (fun h => hg1 h.1)).symm, H.fr⟩

set_option maxRecDepth 100000 in
theorem c_newFat16 (w : World) (a s : Int) (ha : 0 ≤ a ∧ a ≤ 4294967295) (hs : 0 ≤ s ∧ s ≤ 1000000) : Calls Try.prog 58 #[.int .u32 a, .int .u32 s] w (Ret fun v w' => (∃ b, v = .pointer (some ⟨b, 0, none⟩)) ∧ Fr [] w w') := by
  refine enter (fun ρ => ρ 4) Try.func58 rfl rfl rfl (res1 rfl) ?_
  have H := SH.nil w
  refine sq ?_
  refine rg ?_
  refine asg (v := .pointer _) rfl rfl ?_
  refine nl ?_
  refine then_n ?_
  refine sq ?_
  refine rg ?_
  refine mv (v := .int .u32 _) rfl rfl ?_
  refine quo rfl rfl (by omega) (by omega) (by first | exact w_u32 (by omega) | exact w_u32 (rng_u32 _) | exact m_u32 _) rfl ?_
  refine asg (v := .int .u32 _) rfl rfl ?_
  refine nl ?_
  refine then_n ?_
  refine sq ?_
  refine rg ?_
  refine mv (v := .int .u32 _) rfl rfl ?_
  refine mv (v := .int .u32 _) rfl rfl ?_
  refine add rfl rfl (by first | exact w_u32 (by omega) | exact w_u32 (rng_u32 _) | exact m_u32 _) rfl ?_
  refine mk H rfl rfl Try.underlying106 mi22 (by omega) (by omega) (by omega) (by omega) rfl ?_
  clear H; intro b1 w1 hb1 H _
  refine mv (v := .int .u32 _) rfl rfl ?_
  refine mv (v := .int .u32 _) rfl rfl ?_
  refine bu (out := ?o1) ze112 bo112 ?f1 rfl ?_
  case f1 =>
    refine FL.one (v := .int .u32 _) rfl pl112_0 rfl (by first | decide | simp) ?_
    refine FL.one (v := .int .u32 _) rfl pl112_1 rfl (by first | decide | simp) ?_
    refine FL.one (v := .slice _ _ _) rfl pl112_2 rfl (by first | decide | simp) ?_
    refine FL.one (v := .int .u32 _) rfl pl112_3 rfl (by first | decide | simp) ?_
    refine FL.one (v := .int .u32 _) rfl pl112_4 rfl (by first | decide | simp) ?_
    exact FL.nil
  refine bx (v := .agg _) H rfl rfl rfl ?_
  clear H; intro b2 w2 hb2 H _
  refine asg (v := .pointer _) rfl rfl ?_
  refine nl ?_
  refine then_n ?_
  refine rt ?_
  refine fin_r ?_
  exact ⟨⟨_, rfl⟩, H.fr⟩

set_option maxRecDepth 100000 in
theorem c_zz16 (w : World) (a s : Int) (ha : 0 ≤ a ∧ a ≤ 4294967295) (hs : 0 ≤ s ∧ s ≤ 1000000) : Calls Try.prog 55 #[.int .u32 a, .int .u32 s] w (Ret fun v w' => (∃ b, v = .iface 103 (.pointer (some ⟨b, 0, none⟩))) ∧ Fr [] w w') := by
  refine enter (fun ρ => ρ 4) Try.func55 rfl rfl rfl (res1 rfl) ?_
  have H := SH.nil w
  refine sq ?_
  refine rg ?_
  refine asg (v := .nilIface) rfl rfl ?_
  refine nl ?_
  refine then_n ?_
  refine sq ?_
  refine rg ?_
  refine mv (v := .int .u32 _) rfl rfl ?_
  refine mv (v := .int .u32 _) rfl rfl ?_
  refine cl ca58 (c_newFat16 _ _ _ (by omega) (by omega)) rfl ?_
  rintro _ w1 ⟨⟨b1, rfl⟩, F⟩
  replace H := H.keep F; clear F
  refine mi (v := .pointer _) rfl cc103 rfl ?_
  first | refine asg (v := .nilIface) rfl rfl ?_ | refine asg (v := .iface _ _) rfl rfl ?_ | refine asg rfl rfl ?_
  refine nl ?_
  refine then_n ?_
  refine rt ?_
  refine fin_r ?_
  exact ⟨⟨_, rfl⟩, H.fr⟩

set_option maxRecDepth 100000 in
theorem c_eoc32 (w : World) (b : Nat) (y : Int) (hy : 0 ≤ y ∧ y ≤ 268435455) : Calls Try.prog 102 #[.pointer (some ⟨b, 0, none⟩), .int .u32 y] w (Ret fun v w' => v = .bool (decide (268435448 ≤ y ∧ y ≤ 268435455)) ∧ Fr [] w w') := by
  refine enter (fun ρ => ρ 4) Try.func102 rfl rfl rfl (res1 rfl) ?_
  have H := SH.nil w
  refine sq ?_
  refine rg ?_
  refine asg (v := .bool _) rfl rfl ?_
  refine nl ?_
  refine then_n ?_
  refine sq ?_
  refine rg ?_
  refine mv (v := .int .u32 _) rfl rfl ?_
  refine band rfl rfl rfl rfl ?_
  refine eql rfl rfl rfl ?_
  refine asg (v := .bool _) rfl rfl ?_
  refine nl ?_
  refine then_n ?_
  refine rt ?_
  refine fin_r ?_
  exact ⟨congrArg Value.bool (decide_eq_decide.2 ((eoc32 hy).trans ⟨fun h => ⟨h, hy.2⟩, fun h => h.1⟩)), H.fr⟩

set_option maxRecDepth 100000 in
theorem c_zz32 (w : World) (a s : Int) (ha : 0 ≤ a ∧ a ≤ 4294967295) (hs : 0 ≤ s ∧ s ≤ 1000000) : Calls Try.prog 56 #[.int .u32 a, .int .u32 s] w (Ret fun v w' => (∃ b, v = .iface 105 (.pointer (some ⟨b, 0, none⟩))) ∧ Fr [] w w') := by
  refine enter (fun ρ => ρ 4) Try.func56 rfl rfl rfl (res1 rfl) ?_
  have H := SH.nil w
  refine sq ?_
  refine rg ?_
  refine asg (v := .nilIface) rfl rfl ?_
  refine nl ?_
  refine then_n ?_
  refine sq ?_
  refine rg ?_
  refine mv (v := .int .u32 _) rfl rfl ?_
  refine quo rfl rfl (by omega) (by omega) (by first | exact w_u32 (by omega) | exact w_u32 (rng_u32 _) | exact m_u32 _) rfl ?_
  refine asg (v := .int .u32 _) rfl rfl ?_
  refine nl ?_
  refine then_n ?_
  refine sq ?_
  refine rg ?_
  refine mv (v := .int .u32 _) rfl rfl ?_
  refine mv (v := .int .u32 _) rfl rfl ?_
  refine mv (v := .int .u32 _) rfl rfl ?_
  refine add rfl rfl (by first | exact w_u32 (by omega) | exact w_u32 (rng_u32 _) | exact m_u32 _) rfl ?_
  refine mk H rfl rfl Try.underlying106 mi22 (by omega) (by omega) (by omega) (by omega) rfl ?_
  clear H; intro b1 w1 hb1 H _
  refine mv (v := .int .u32 _) rfl rfl ?_
  refine bu (out := ?o1) ze108 bo108 ?f1 rfl ?_
  case f1 =>
    refine FL.one (v := .int .u32 _) rfl pl108_0 rfl (by first | decide | simp) ?_
    refine FL.one (v := .int .u32 _) rfl pl108_1 rfl (by first | decide | simp) ?_
    refine FL.one (v := .int .u32 _) rfl pl108_5 rfl (by first | decide | simp) ?_
    refine FL.one (v := .int .u32 _) rfl pl108_4 rfl (by first | decide | simp) ?_
    refine FL.one (v := .slice _ _ _) rfl pl108_3 rfl (by first | decide | simp) ?_
    refine FL.one (v := .int .u32 _) rfl pl108_6 rfl (by first | decide | simp) ?_
    exact FL.nil
  refine bx (v := .agg _) H rfl rfl rfl ?_
  clear H; intro b2 w2 hb2 H _
  refine mi (v := .pointer _) rfl cc105 rfl ?_
  first | refine asg (v := .nilIface) rfl rfl ?_ | refine asg (v := .iface _ _) rfl rfl ?_ | refine asg rfl rfl ?_
  refine nl ?_
  refine then_n ?_
  refine rt ?_
  refine fin_r ?_
  exact ⟨⟨_, rfl⟩, H.fr⟩

set_option maxRecDepth 100000 in
theorem c_fatTable12 (w : World)  : Calls Try.prog 46 #[.int .i64 12, .int .i64 8] w (Ret fun v w' => (∃ b, v = .tuple #[.iface 101 (.pointer (some ⟨b, 0, none⟩)), .bool true]) ∧ Fr [] w w') := by
  refine enter (fun ρ => .tuple #[ρ 4, ρ 5]) Try.func46 rfl rfl rfl (res2 rfl) ?_
  have H := SH.nil w
  refine sq ?_
  refine rg ?_
  refine asg (v := .nilIface) rfl rfl ?_
  refine asg (v := .bool _) rfl rfl ?_
  refine nl ?_
  refine then_n ?_
  refine sq ?_
  refine sq ?_
  refine rg ?_
  refine mv (v := .int .i64 _) rfl rfl ?_
  refine lss rfl rfl rfl ?_
  refine mv (v := .bool _) rfl rfl ?_
  first | refine spL (t := 8) (b := false) rfl ?_ | refine spF (t := 8) rfl (by decide) ?_   -- guard 1
  refine gy rfl ?_
  refine mv (v := .int .i64 _) rfl rfl ?_
  refine gy rfl ?_
  refine gtr rfl rfl rfl ?_
  refine pkF (v := .bool _) rfl rfl rfl ?_
  refine nl ?_
  refine then_n ?_
  first | refine cF rfl (by decide) ?_ | refine cbF rfl (by decide) ?_   -- test 1
  refine sk ?_
  refine then_n ?_
  refine sq ?_
  refine sq ?_
  refine rg ?_
  refine mv (v := .int .i64 _) rfl rfl ?_
  refine nl ?_
  refine then_n ?_
  refine bk ?_
  refine sq ?_
  refine rg ?_
  refine eql rfl rfl rfl ?_
  refine asg (v := .bool _) rfl rfl ?_
  refine nl ?_
  refine then_n ?_
  first | refine cT rfl (by decide) ?_ | refine cbT rfl (by decide) ?_   -- test 2
  refine sq ?_
  refine rg ?_
  refine mv (v := .int .i64 _) rfl rfl ?_
  refine mul rfl rfl (by first | exact w_i64 (by omega) | exact w_i64 (rng_i64 _) | rfl) rfl ?_
  refine add rfl rfl (by first | exact w_i64 (by omega) | exact w_i64 (rng_i64 _) | rfl) rfl ?_
  refine quo rfl rfl (by omega) (by omega) (by first | exact w_i64 (by omega) | exact w_i64 (rng_i64 _) | rfl) rfl ?_
  refine max2 rfl rfl rfl ?_
  refine cvi rfl rfl Try.underlying22 (by first | exact w_u32 (by omega) | exact w_u32 (rng_u32 _) | exact m_u32 _) rfl ?_
  refine cl ca54 (c_zz12 _ _ _ (by omega) (by omega)) rfl ?_
  rintro _ w1 ⟨⟨b1, rfl⟩, F⟩
  replace H := H.keep F; clear F
  first | refine asg (v := .nilIface) rfl rfl ?_ | refine asg (v := .iface _ _) rfl rfl ?_ | refine asg rfl rfl ?_
  refine asg (v := .bool _) rfl rfl ?_
  refine nl ?_
  refine then_n ?_
  refine rt ?_
  refine in_r ?_
  refine then_r ?_
  refine fin_r ?_
  exact ⟨⟨_, rfl⟩, H.fr⟩

set_option maxRecDepth 100000 in
theorem c_fatEnd12 (w : World) (y : Int) : Calls Try.prog 30 #[.int .i64 12, .int .u32 y] w (Ret fun v w' => v = .bool (decide (4088 ≤ y ∧ y ≤ 4095)) ∧ Fr [] w w') := by
  refine enter (fun ρ => ρ 4) Try.func30 rfl rfl rfl (res1 rfl) ?_
  have H := SH.nil w
  refine sq ?_
  refine rg ?_
  refine asg (v := .bool _) rfl rfl ?_
  refine nl ?_
  refine then_n ?_
  refine sq ?_
  refine rg ?_
  refine mv (v := .int .i64 _) rfl rfl ?_
  refine cl ca46 (c_fatTable12 _) rfl ?_
  rintro _ w1 ⟨⟨b1, rfl⟩, F⟩
  replace H := H.keep F; clear F
  refine mv (v := .tuple _) rfl rfl ?_
  refine xt rfl rfl rfl ?_
  refine xt rfl rfl rfl ?_
  first | refine asg (v := .nilIface) rfl rfl ?_ | refine asg (v := .iface _ _) rfl rfl ?_ | refine asg rfl rfl ?_
  refine asg (v := .bool _) rfl rfl ?_
  refine nl ?_
  refine then_n ?_
  refine sq ?_
  refine rg ?_
  refine mv (v := .bool _) rfl rfl ?_
  refine mv (v := .bool _) rfl rfl ?_
  first | refine spL (t := 13) (b := true) rfl ?_ | refine spT (t := 13) rfl rfl ?_   -- guard 1
  refine gy rfl ?_
  first | refine mv (v := .nilIface) rfl rfl ?_ | refine mv (v := .iface _ _) rfl rfl ?_ | refine mv rfl rfl ?_
  refine gy rfl ?_
  refine mv (v := .int .u32 _) rfl rfl ?_
  refine gy rfl ?_
  refine mc rfl me101_IsEOC ca80 (c_eoc12 _ _ _) rfl ?_
  rintro _ w2 ⟨rfl, F⟩
  replace H := H.keep F; clear F
  refine pkT (v := .bool _) rfl rfl rfl ?_
  refine asg (v := .bool _) rfl rfl ?_
  refine nl ?_
  refine then_n ?_
  refine rt ?_
  refine fin_r ?_
  exact ⟨rfl, H.fr⟩

set_option maxRecDepth 100000 in
theorem c_fatLast12 (w : World) (y : Int) : Calls Try.prog 31 #[.int .i64 12, .int .i64 y] w (Ret fun v w' => v = .bool (decide (4088 ≤ y)) ∧ Fr [] w w') := by
  refine enter (fun ρ => ρ 4) Try.func31 rfl rfl rfl (res1 rfl) ?_
  have H := SH.nil w
  refine sq ?_
  refine rg ?_
  refine asg (v := .bool _) rfl rfl ?_
  refine nl ?_
  refine then_n ?_
  refine sq ?_
  refine rg ?_
  refine mv (v := .int .i64 _) rfl rfl ?_
  refine mkm H rfl ?_
  clear H; intro b1 w1 hb1 H F
  refine ins (v := .int .i64 _) H rfl rfl rfl Try.underlying87 Try.underlying3 (by rfl) ?_
  clear H; intro w2 H _
  refine ins (v := .int .i64 _) H rfl rfl rfl Try.underlying87 Try.underlying3 (by rfl) ?_
  clear H; intro w3 H _
  refine ins (v := .int .i64 _) H rfl rfl rfl Try.underlying87 Try.underlying3 (by rfl) ?_
  clear H; intro w4 H _
  refine mv (v := .map _) rfl rfl ?_
  refine mv (v := .int .i64 _) rfl rfl ?_
  refine lkp (v := .int .i64 _) H rfl rfl Try.underlying87 Try.underlying3 ⟨_, rfl⟩ rfl ?_
  refine geq rfl rfl rfl ?_
  refine asg (v := .bool _) rfl rfl ?_
  refine nl ?_
  refine then_n ?_
  refine rt ?_
  refine fin_r ?_
  exact ⟨rfl, H.fr⟩

set_option maxRecDepth 100000 in
theorem c_fatBits12 (w : World) (x : Int) (h0 : 0 ≤ x ∧ x ≤ 255) (hx : x % 3 = 0) : Calls Try.prog 29 #[.int .u8 x] w (Ret fun v w' => v = .int .i64 12 ∧ Fr [] w w') := by
  refine enter (fun ρ => ρ 2) Try.func29 rfl rfl rfl (res1 rfl) ?_
  have H := SH.nil w
  refine sq ?_
  refine rg ?_
  refine asg (v := .int .i64 _) rfl rfl ?_
  refine nl ?_
  refine then_n ?_
  refine sq ?_
  refine rg ?_
  refine bsl (sz := 1) (out := ?o1) H Try.underlying81 ze3 sz3_1 (by decide) ?f1 rfl ?_
  case f1 =>
    refine FS.one (v := .int .i64 _) rfl rfl rfl (by first | decide | simp) ?_
    refine FS.one (v := .int .i64 _) rfl rfl rfl (by first | decide | simp) ?_
    refine FS.one (v := .int .i64 _) rfl rfl rfl (by first | decide | simp) ?_
    exact FS.nil
  clear H; intro b1 w1 hb1 H F
  refine mv (v := .int .u8 _) rfl rfl ?_
  refine rem (c := 0) rfl rfl (by omega) (by omega) hx rfl ?_
  first | refine ia rfl rfl Try.underlying81 sz3_1 (by omega) rfl ?_ | refine iA rfl rfl Try.underlying81 sz3_1 (by omega) rfl ?_
  first | refine ld H rfl sc3 rfl rfl ?_ | refine lc rfl (by first | assumption | exact H.fr.cell (by assumption) (by simp)) sc3 rfl ?_ | refine ld H rfl sc3 (by assumption) rfl ?_
  refine asg (v := .int .i64 _) rfl rfl ?_
  refine nl ?_
  refine then_n ?_
  refine rt ?_
  refine fin_r ?_
  exact ⟨rfl, H.fr⟩

set_option maxRecDepth 100000 in
theorem c_FnFatEnd12 (w : World) (x y : Int) (h0 : 0 ≤ x ∧ x ≤ 255) (hx : x % 3 = 0) (hy : 0 ≤ y ∧ y ≤ 4294967295) : Calls Try.prog 10 #[.int .u8 x, .int .u32 y] w (Ret fun v w' => v = .bool true ∧ Fr [] w w') := by
  refine enter (fun ρ => ρ 4) Try.func10 rfl rfl rfl (res1 rfl) ?_
  have H := SH.nil w
  refine sq ?_
  refine rg ?_
  refine asg (v := .bool _) rfl rfl ?_
  refine nl ?_
  refine then_n ?_
  refine sq ?_
  refine rg ?_
  refine mv (v := .int .u8 _) rfl rfl ?_
  refine cl ca29 (c_fatBits12 _ x h0 hx) rfl ?_
  rintro _ w1 ⟨rfl, F⟩
  replace H := H.keep F; clear F
  refine asg (v := .int .i64 _) rfl rfl ?_
  refine nl ?_
  refine then_n ?_
  refine sq ?_
  refine rg ?_
  refine mv (v := .int .u32 _) rfl rfl ?_
  refine mkm H rfl ?_
  clear H; intro b1 w2 hb1 H F
  refine ins (v := .int .u32 _) H rfl rfl rfl Try.underlying56 Try.underlying3 (by rfl) ?_
  clear H; intro w3 H _
  refine ins (v := .int .u32 _) H rfl rfl rfl Try.underlying56 Try.underlying3 (by rfl) ?_
  clear H; intro w4 H _
  refine ins (v := .int .u32 _) H rfl rfl rfl Try.underlying56 Try.underlying3 (by rfl) ?_
  clear H; intro w5 H _
  refine mv (v := .map _) rfl rfl ?_
  refine mv (v := .int .i64 _) rfl rfl ?_
  refine lkp (v := .int .u32 _) H rfl rfl Try.underlying56 Try.underlying3 ⟨_, rfl⟩ rfl ?_
  refine band rfl rfl rfl rfl ?_
  refine asg (v := .int .u32 _) rfl rfl ?_
  refine nl ?_
  refine then_n ?_
  refine sq ?_
  refine rg ?_
  have hm := mask_rng12 y
  refine mv (v := .int .i64 _) rfl rfl ?_
  refine mv (v := .int .u32 _) rfl rfl ?_
  refine cl ca30 (c_fatEnd12 _ _) rfl ?_
  rintro _ w6 ⟨rfl, F⟩
  replace H := H.keep F; clear F
  refine mv (v := .int .i64 _) rfl rfl ?_
  refine mv (v := .int .u32 _) rfl rfl ?_
  refine cvi rfl rfl Try.underlying3 (by first | exact w_i64 (by omega) | exact w_i64 (rng_i64 _) | rfl) rfl ?_
  skip
  refine cl ca31 (c_fatLast12 _ _) rfl ?_
  rintro _ w7 ⟨rfl, F⟩
  replace H := H.keep F; clear F
  refine eqlB rfl rfl Try.underlying4 rfl ?_
  refine mv (v := .bool _) rfl rfl ?_
  first | refine spL (t := 22) (b := true) rfl ?_ | refine spT (t := 22) rfl (by simp only [decide_eq_decide]; omega) ?_   -- guard 1
  refine gy rfl ?_
  refine mv (v := .int .i64 _) rfl rfl ?_
  refine gy rfl ?_
  refine mkm H rfl ?_
  clear H; intro b2 w8 hb2 H F
  refine gy rfl ?_
  refine ins (v := .int .u32 _) H rfl rfl rfl Try.underlying56 Try.underlying3 (by rfl) ?_
  clear H; intro w9 H _
  refine gy rfl ?_
  refine ins (v := .int .u32 _) H rfl rfl rfl Try.underlying56 Try.underlying3 (by rfl) ?_
  clear H; intro w10 H _
  refine gy rfl ?_
  refine ins (v := .int .u32 _) H rfl rfl rfl Try.underlying56 Try.underlying3 (by rfl) ?_
  clear H; intro w11 H _
  refine gy rfl ?_
  refine mv (v := .map _) rfl rfl ?_
  refine gy rfl ?_
  refine mv (v := .int .i64 _) rfl rfl ?_
  refine gy rfl ?_
  refine lkp (v := .int .u32 _) H rfl rfl Try.underlying56 Try.underlying3 ⟨_, rfl⟩ rfl ?_
  refine gy rfl ?_
  refine band rfl rfl rfl rfl ?_
  refine gy rfl ?_
  refine cl ca30 (c_fatEnd12 _ _) rfl ?_
  rintro _ w12 ⟨rfl, F⟩
  replace H := H.keep F; clear F
  refine pkT (v := .bool _) rfl rfl rfl ?_
  refine asg (v := .bool _) rfl rfl ?_
  refine nl ?_
  refine then_n ?_
  refine rt ?_
  refine fin_r ?_
  exact ⟨congrArg Value.bool (decide_eq_true (by decide)), H.fr⟩

set_option maxRecDepth 100000 in
theorem c_fatTable16 (w : World)  : Calls Try.prog 46 #[.int .i64 16, .int .i64 8] w (Ret fun v w' => (∃ b, v = .tuple #[.iface 103 (.pointer (some ⟨b, 0, none⟩)), .bool true]) ∧ Fr [] w w') := by
  refine enter (fun ρ => .tuple #[ρ 4, ρ 5]) Try.func46 rfl rfl rfl (res2 rfl) ?_
  have H := SH.nil w
  refine sq ?_
  refine rg ?_
  refine asg (v := .nilIface) rfl rfl ?_
  refine asg (v := .bool _) rfl rfl ?_
  refine nl ?_
  refine then_n ?_
  refine sq ?_
  refine sq ?_
  refine rg ?_
  refine mv (v := .int .i64 _) rfl rfl ?_
  refine lss rfl rfl rfl ?_
  refine mv (v := .bool _) rfl rfl ?_
  first | refine spL (t := 8) (b := false) rfl ?_ | refine spF (t := 8) rfl (by decide) ?_   -- guard 1
  refine gy rfl ?_
  refine mv (v := .int .i64 _) rfl rfl ?_
  refine gy rfl ?_
  refine gtr rfl rfl rfl ?_
  refine pkF (v := .bool _) rfl rfl rfl ?_
  refine nl ?_
  refine then_n ?_
  first | refine cF rfl (by decide) ?_ | refine cbF rfl (by decide) ?_   -- test 1
  refine sk ?_
  refine then_n ?_
  refine sq ?_
  refine sq ?_
  refine rg ?_
  refine mv (v := .int .i64 _) rfl rfl ?_
  refine nl ?_
  refine then_n ?_
  refine bk ?_
  refine sq ?_
  refine rg ?_
  refine eql rfl rfl rfl ?_
  refine asg (v := .bool _) rfl rfl ?_
  refine nl ?_
  refine then_n ?_
  first | refine cF rfl (by decide) ?_ | refine cbF rfl (by decide) ?_   -- test 2
  refine sq ?_
  refine rg ?_
  refine eql rfl rfl rfl ?_
  refine asg (v := .bool _) rfl rfl ?_
  refine nl ?_
  refine then_n ?_
  first | refine cT rfl (by decide) ?_ | refine cbT rfl (by decide) ?_   -- test 3
  refine sq ?_
  refine rg ?_
  refine mv (v := .int .i64 _) rfl rfl ?_
  refine mul rfl rfl (by first | exact w_i64 (by omega) | exact w_i64 (rng_i64 _) | rfl) rfl ?_
  refine cvi rfl rfl Try.underlying22 (by first | exact w_u32 (by omega) | exact w_u32 (rng_u32 _) | exact m_u32 _) rfl ?_
  refine cl ca55 (c_zz16 _ _ _ (by omega) (by omega)) rfl ?_
  rintro _ w1 ⟨⟨b1, rfl⟩, F⟩
  replace H := H.keep F; clear F
  first | refine asg (v := .nilIface) rfl rfl ?_ | refine asg (v := .iface _ _) rfl rfl ?_ | refine asg rfl rfl ?_
  refine asg (v := .bool _) rfl rfl ?_
  refine nl ?_
  refine then_n ?_
  refine rt ?_
  refine in_r ?_
  refine then_r ?_
  refine fin_r ?_
  exact ⟨⟨_, rfl⟩, H.fr⟩

set_option maxRecDepth 100000 in
theorem c_fatEnd16 (w : World) (y : Int) : Calls Try.prog 30 #[.int .i64 16, .int .u32 y] w (Ret fun v w' => v = .bool (decide (65528 ≤ y ∧ y ≤ 65535)) ∧ Fr [] w w') := by
  refine enter (fun ρ => ρ 4) Try.func30 rfl rfl rfl (res1 rfl) ?_
  have H := SH.nil w
  refine sq ?_
  refine rg ?_
  refine asg (v := .bool _) rfl rfl ?_
  refine nl ?_
  refine then_n ?_
  refine sq ?_
  refine rg ?_
  refine mv (v := .int .i64 _) rfl rfl ?_
  refine cl ca46 (c_fatTable16 _) rfl ?_
  rintro _ w1 ⟨⟨b1, rfl⟩, F⟩
  replace H := H.keep F; clear F
  refine mv (v := .tuple _) rfl rfl ?_
  refine xt rfl rfl rfl ?_
  refine xt rfl rfl rfl ?_
  first | refine asg (v := .nilIface) rfl rfl ?_ | refine asg (v := .iface _ _) rfl rfl ?_ | refine asg rfl rfl ?_
  refine asg (v := .bool _) rfl rfl ?_
  refine nl ?_
  refine then_n ?_
  refine sq ?_
  refine rg ?_
  refine mv (v := .bool _) rfl rfl ?_
  refine mv (v := .bool _) rfl rfl ?_
  first | refine spL (t := 13) (b := true) rfl ?_ | refine spT (t := 13) rfl rfl ?_   -- guard 1
  refine gy rfl ?_
  first | refine mv (v := .nilIface) rfl rfl ?_ | refine mv (v := .iface _ _) rfl rfl ?_ | refine mv rfl rfl ?_
  refine gy rfl ?_
  refine mv (v := .int .u32 _) rfl rfl ?_
  refine gy rfl ?_
  refine mc rfl me103_IsEOC ca91 (c_eoc16 _ _ _) rfl ?_
  rintro _ w2 ⟨rfl, F⟩
  replace H := H.keep F; clear F
  refine pkT (v := .bool _) rfl rfl rfl ?_
  refine asg (v := .bool _) rfl rfl ?_
  refine nl ?_
  refine then_n ?_
  refine rt ?_
  refine fin_r ?_
  exact ⟨rfl, H.fr⟩

set_option maxRecDepth 100000 in
theorem c_fatLast16 (w : World) (y : Int) : Calls Try.prog 31 #[.int .i64 16, .int .i64 y] w (Ret fun v w' => v = .bool (decide (65528 ≤ y)) ∧ Fr [] w w') := by
  refine enter (fun ρ => ρ 4) Try.func31 rfl rfl rfl (res1 rfl) ?_
  have H := SH.nil w
  refine sq ?_
  refine rg ?_
  refine asg (v := .bool _) rfl rfl ?_
  refine nl ?_
  refine then_n ?_
  refine sq ?_
  refine rg ?_
  refine mv (v := .int .i64 _) rfl rfl ?_
  refine mkm H rfl ?_
  clear H; intro b1 w1 hb1 H F
  refine ins (v := .int .i64 _) H rfl rfl rfl Try.underlying87 Try.underlying3 (by rfl) ?_
  clear H; intro w2 H _
  refine ins (v := .int .i64 _) H rfl rfl rfl Try.underlying87 Try.underlying3 (by rfl) ?_
  clear H; intro w3 H _
  refine ins (v := .int .i64 _) H rfl rfl rfl Try.underlying87 Try.underlying3 (by rfl) ?_
  clear H; intro w4 H _
  refine mv (v := .map _) rfl rfl ?_
  refine mv (v := .int .i64 _) rfl rfl ?_
  refine lkp (v := .int .i64 _) H rfl rfl Try.underlying87 Try.underlying3 ⟨_, rfl⟩ rfl ?_
  refine geq rfl rfl rfl ?_
  refine asg (v := .bool _) rfl rfl ?_
  refine nl ?_
  refine then_n ?_
  refine rt ?_
  refine fin_r ?_
  exact ⟨rfl, H.fr⟩

set_option maxRecDepth 100000 in
theorem c_fatBits16 (w : World) (x : Int) (h0 : 0 ≤ x ∧ x ≤ 255) (hx : x % 3 = 1) : Calls Try.prog 29 #[.int .u8 x] w (Ret fun v w' => v = .int .i64 16 ∧ Fr [] w w') := by
  refine enter (fun ρ => ρ 2) Try.func29 rfl rfl rfl (res1 rfl) ?_
  have H := SH.nil w
  refine sq ?_
  refine rg ?_
  refine asg (v := .int .i64 _) rfl rfl ?_
  refine nl ?_
  refine then_n ?_
  refine sq ?_
  refine rg ?_
  refine bsl (sz := 1) (out := ?o1) H Try.underlying81 ze3 sz3_1 (by decide) ?f1 rfl ?_
  case f1 =>
    refine FS.one (v := .int .i64 _) rfl rfl rfl (by first | decide | simp) ?_
    refine FS.one (v := .int .i64 _) rfl rfl rfl (by first | decide | simp) ?_
    refine FS.one (v := .int .i64 _) rfl rfl rfl (by first | decide | simp) ?_
    exact FS.nil
  clear H; intro b1 w1 hb1 H F
  refine mv (v := .int .u8 _) rfl rfl ?_
  refine rem (c := 1) rfl rfl (by omega) (by omega) hx rfl ?_
  first | refine ia rfl rfl Try.underlying81 sz3_1 (by omega) rfl ?_ | refine iA rfl rfl Try.underlying81 sz3_1 (by omega) rfl ?_
  first | refine ld H rfl sc3 rfl rfl ?_ | refine lc rfl (by first | assumption | exact H.fr.cell (by assumption) (by simp)) sc3 rfl ?_ | refine ld H rfl sc3 (by assumption) rfl ?_
  refine asg (v := .int .i64 _) rfl rfl ?_
  refine nl ?_
  refine then_n ?_
  refine rt ?_
  refine fin_r ?_
  exact ⟨rfl, H.fr⟩

set_option maxRecDepth 100000 in
theorem c_FnFatEnd16 (w : World) (x y : Int) (h0 : 0 ≤ x ∧ x ≤ 255) (hx : x % 3 = 1) (hy : 0 ≤ y ∧ y ≤ 4294967295) : Calls Try.prog 10 #[.int .u8 x, .int .u32 y] w (Ret fun v w' => v = .bool true ∧ Fr [] w w') := by
  refine enter (fun ρ => ρ 4) Try.func10 rfl rfl rfl (res1 rfl) ?_
  have H := SH.nil w
  refine sq ?_
  refine rg ?_
  refine asg (v := .bool _) rfl rfl ?_
  refine nl ?_
  refine then_n ?_
  refine sq ?_
  refine rg ?_
  refine mv (v := .int .u8 _) rfl rfl ?_
  refine cl ca29 (c_fatBits16 _ x h0 hx) rfl ?_
  rintro _ w1 ⟨rfl, F⟩
  replace H := H.keep F; clear F
  refine asg (v := .int .i64 _) rfl rfl ?_
  refine nl ?_
  refine then_n ?_
  refine sq ?_
  refine rg ?_
  refine mv (v := .int .u32 _) rfl rfl ?_
  refine mkm H rfl ?_
  clear H; intro b1 w2 hb1 H F
  refine ins (v := .int .u32 _) H rfl rfl rfl Try.underlying56 Try.underlying3 (by rfl) ?_
  clear H; intro w3 H _
  refine ins (v := .int .u32 _) H rfl rfl rfl Try.underlying56 Try.underlying3 (by rfl) ?_
  clear H; intro w4 H _
  refine ins (v := .int .u32 _) H rfl rfl rfl Try.underlying56 Try.underlying3 (by rfl) ?_
  clear H; intro w5 H _
  refine mv (v := .map _) rfl rfl ?_
  refine mv (v := .int .i64 _) rfl rfl ?_
  refine lkp (v := .int .u32 _) H rfl rfl Try.underlying56 Try.underlying3 ⟨_, rfl⟩ rfl ?_
  refine band rfl rfl rfl rfl ?_
  refine asg (v := .int .u32 _) rfl rfl ?_
  refine nl ?_
  refine then_n ?_
  refine sq ?_
  refine rg ?_
  have hm := mask_rng16 y
  refine mv (v := .int .i64 _) rfl rfl ?_
  refine mv (v := .int .u32 _) rfl rfl ?_
  refine cl ca30 (c_fatEnd16 _ _) rfl ?_
  rintro _ w6 ⟨rfl, F⟩
  replace H := H.keep F; clear F
  refine mv (v := .int .i64 _) rfl rfl ?_
  refine mv (v := .int .u32 _) rfl rfl ?_
  refine cvi rfl rfl Try.underlying3 (by first | exact w_i64 (by omega) | exact w_i64 (rng_i64 _) | rfl) rfl ?_
  skip
  refine cl ca31 (c_fatLast16 _ _) rfl ?_
  rintro _ w7 ⟨rfl, F⟩
  replace H := H.keep F; clear F
  refine eqlB rfl rfl Try.underlying4 rfl ?_
  refine mv (v := .bool _) rfl rfl ?_
  first | refine spL (t := 22) (b := true) rfl ?_ | refine spT (t := 22) rfl (by simp only [decide_eq_decide]; omega) ?_   -- guard 1
  refine gy rfl ?_
  refine mv (v := .int .i64 _) rfl rfl ?_
  refine gy rfl ?_
  refine mkm H rfl ?_
  clear H; intro b2 w8 hb2 H F
  refine gy rfl ?_
  refine ins (v := .int .u32 _) H rfl rfl rfl Try.underlying56 Try.underlying3 (by rfl) ?_
  clear H; intro w9 H _
  refine gy rfl ?_
  refine ins (v := .int .u32 _) H rfl rfl rfl Try.underlying56 Try.underlying3 (by rfl) ?_
  clear H; intro w10 H _
  refine gy rfl ?_
  refine ins (v := .int .u32 _) H rfl rfl rfl Try.underlying56 Try.underlying3 (by rfl) ?_
  clear H; intro w11 H _
  refine gy rfl ?_
  refine mv (v := .map _) rfl rfl ?_
  refine gy rfl ?_
  refine mv (v := .int .i64 _) rfl rfl ?_
  refine gy rfl ?_
  refine lkp (v := .int .u32 _) H rfl rfl Try.underlying56 Try.underlying3 ⟨_, rfl⟩ rfl ?_
  refine gy rfl ?_
  refine band rfl rfl rfl rfl ?_
  refine gy rfl ?_
  refine cl ca30 (c_fatEnd16 _ _) rfl ?_
  rintro _ w12 ⟨rfl, F⟩
  replace H := H.keep F; clear F
  refine pkT (v := .bool _) rfl rfl rfl ?_
  refine asg (v := .bool _) rfl rfl ?_
  refine nl ?_
  refine then_n ?_
  refine rt ?_
  refine fin_r ?_
  exact ⟨congrArg Value.bool (decide_eq_true (by decide)), H.fr⟩

set_option maxRecDepth 100000 in
theorem c_fatTable32 (w : World)  : Calls Try.prog 46 #[.int .i64 32, .int .i64 8] w (Ret fun v w' => (∃ b, v = .tuple #[.iface 105 (.pointer (some ⟨b, 0, none⟩)), .bool true]) ∧ Fr [] w w') := by
  refine enter (fun ρ => .tuple #[ρ 4, ρ 5]) Try.func46 rfl rfl rfl (res2 rfl) ?_
  have H := SH.nil w
  refine sq ?_
  refine rg ?_
  refine asg (v := .nilIface) rfl rfl ?_
  refine asg (v := .bool _) rfl rfl ?_
  refine nl ?_
  refine then_n ?_
  refine sq ?_
  refine sq ?_
  refine rg ?_
  refine mv (v := .int .i64 _) rfl rfl ?_
  refine lss rfl rfl rfl ?_
  refine mv (v := .bool _) rfl rfl ?_
  first | refine spL (t := 8) (b := false) rfl ?_ | refine spF (t := 8) rfl (by decide) ?_   -- guard 1
  refine gy rfl ?_
  refine mv (v := .int .i64 _) rfl rfl ?_
  refine gy rfl ?_
  refine gtr rfl rfl rfl ?_
  refine pkF (v := .bool _) rfl rfl rfl ?_
  refine nl ?_
  refine then_n ?_
  first | refine cF rfl (by decide) ?_ | refine cbF rfl (by decide) ?_   -- test 1
  refine sk ?_
  refine then_n ?_
  refine sq ?_
  refine sq ?_
  refine rg ?_
  refine mv (v := .int .i64 _) rfl rfl ?_
  refine nl ?_
  refine then_n ?_
  refine bk ?_
  refine sq ?_
  refine rg ?_
  refine eql rfl rfl rfl ?_
  refine asg (v := .bool _) rfl rfl ?_
  refine nl ?_
  refine then_n ?_
  first | refine cF rfl (by decide) ?_ | refine cbF rfl (by decide) ?_   -- test 2
  refine sq ?_
  refine rg ?_
  refine eql rfl rfl rfl ?_
  refine asg (v := .bool _) rfl rfl ?_
  refine nl ?_
  refine then_n ?_
  first | refine cF rfl (by decide) ?_ | refine cbF rfl (by decide) ?_   -- test 3
  refine sq ?_
  refine rg ?_
  refine eql rfl rfl rfl ?_
  refine asg (v := .bool _) rfl rfl ?_
  refine nl ?_
  refine then_n ?_
  first | refine cT rfl (by decide) ?_ | refine cbT rfl (by decide) ?_   -- test 4
  refine sq ?_
  refine rg ?_
  refine mv (v := .int .i64 _) rfl rfl ?_
  refine mul rfl rfl (by first | exact w_i64 (by omega) | exact w_i64 (rng_i64 _) | rfl) rfl ?_
  refine cvi rfl rfl Try.underlying22 (by first | exact w_u32 (by omega) | exact w_u32 (rng_u32 _) | exact m_u32 _) rfl ?_
  refine cl ca56 (c_zz32 _ _ _ (by omega) (by omega)) rfl ?_
  rintro _ w1 ⟨⟨b1, rfl⟩, F⟩
  replace H := H.keep F; clear F
  first | refine asg (v := .nilIface) rfl rfl ?_ | refine asg (v := .iface _ _) rfl rfl ?_ | refine asg rfl rfl ?_
  refine asg (v := .bool _) rfl rfl ?_
  refine nl ?_
  refine then_n ?_
  refine rt ?_
  refine in_r ?_
  refine then_r ?_
  refine fin_r ?_
  exact ⟨⟨_, rfl⟩, H.fr⟩

set_option maxRecDepth 100000 in
theorem c_fatEnd32 (w : World) (y : Int) (hy : 0 ≤ y ∧ y ≤ 268435455) : Calls Try.prog 30 #[.int .i64 32, .int .u32 y] w (Ret fun v w' => v = .bool (decide (268435448 ≤ y ∧ y ≤ 268435455)) ∧ Fr [] w w') := by
  refine enter (fun ρ => ρ 4) Try.func30 rfl rfl rfl (res1 rfl) ?_
  have H := SH.nil w
  refine sq ?_
  refine rg ?_
  refine asg (v := .bool _) rfl rfl ?_
  refine nl ?_
  refine then_n ?_
  refine sq ?_
  refine rg ?_
  refine mv (v := .int .i64 _) rfl rfl ?_
  refine cl ca46 (c_fatTable32 _) rfl ?_
  rintro _ w1 ⟨⟨b1, rfl⟩, F⟩
  replace H := H.keep F; clear F
  refine mv (v := .tuple _) rfl rfl ?_
  refine xt rfl rfl rfl ?_
  refine xt rfl rfl rfl ?_
  first | refine asg (v := .nilIface) rfl rfl ?_ | refine asg (v := .iface _ _) rfl rfl ?_ | refine asg rfl rfl ?_
  refine asg (v := .bool _) rfl rfl ?_
  refine nl ?_
  refine then_n ?_
  refine sq ?_
  refine rg ?_
  refine mv (v := .bool _) rfl rfl ?_
  refine mv (v := .bool _) rfl rfl ?_
  first | refine spL (t := 13) (b := true) rfl ?_ | refine spT (t := 13) rfl rfl ?_   -- guard 1
  refine gy rfl ?_
  first | refine mv (v := .nilIface) rfl rfl ?_ | refine mv (v := .iface _ _) rfl rfl ?_ | refine mv rfl rfl ?_
  refine gy rfl ?_
  refine mv (v := .int .u32 _) rfl rfl ?_
  refine gy rfl ?_
  refine mc rfl me105_IsEOC ca102 (c_eoc32 _ _ _ hy) rfl ?_
  rintro _ w2 ⟨rfl, F⟩
  replace H := H.keep F; clear F
  refine pkT (v := .bool _) rfl rfl rfl ?_
  refine asg (v := .bool _) rfl rfl ?_
  refine nl ?_
  refine then_n ?_
  refine rt ?_
  refine fin_r ?_
  exact ⟨rfl, H.fr⟩

set_option maxRecDepth 100000 in
theorem c_fatLast32 (w : World) (y : Int) : Calls Try.prog 31 #[.int .i64 32, .int .i64 y] w (Ret fun v w' => v = .bool (decide (268435448 ≤ y)) ∧ Fr [] w w') := by
  refine enter (fun ρ => ρ 4) Try.func31 rfl rfl rfl (res1 rfl) ?_
  have H := SH.nil w
  refine sq ?_
  refine rg ?_
  refine asg (v := .bool _) rfl rfl ?_
  refine nl ?_
  refine then_n ?_
  refine sq ?_
  refine rg ?_
  refine mv (v := .int .i64 _) rfl rfl ?_
  refine mkm H rfl ?_
  clear H; intro b1 w1 hb1 H F
  refine ins (v := .int .i64 _) H rfl rfl rfl Try.underlying87 Try.underlying3 (by rfl) ?_
  clear H; intro w2 H _
  refine ins (v := .int .i64 _) H rfl rfl rfl Try.underlying87 Try.underlying3 (by rfl) ?_
  clear H; intro w3 H _
  refine ins (v := .int .i64 _) H rfl rfl rfl Try.underlying87 Try.underlying3 (by rfl) ?_
  clear H; intro w4 H _
  refine mv (v := .map _) rfl rfl ?_
  refine mv (v := .int .i64 _) rfl rfl ?_
  refine lkp (v := .int .i64 _) H rfl rfl Try.underlying87 Try.underlying3 ⟨_, rfl⟩ rfl ?_
  refine geq rfl rfl rfl ?_
  refine asg (v := .bool _) rfl rfl ?_
  refine nl ?_
  refine then_n ?_
  refine rt ?_
  refine fin_r ?_
  exact ⟨rfl, H.fr⟩

set_option maxRecDepth 100000 in
theorem c_fatBits32 (w : World) (x : Int) (h0 : 0 ≤ x ∧ x ≤ 255) (hx : x % 3 = 2) : Calls Try.prog 29 #[.int .u8 x] w (Ret fun v w' => v = .int .i64 32 ∧ Fr [] w w') := by
  refine enter (fun ρ => ρ 2) Try.func29 rfl rfl rfl (res1 rfl) ?_
  have H := SH.nil w
  refine sq ?_
  refine rg ?_
  refine asg (v := .int .i64 _) rfl rfl ?_
  refine nl ?_
  refine then_n ?_
  refine sq ?_
  refine rg ?_
  refine bsl (sz := 1) (out := ?o1) H Try.underlying81 ze3 sz3_1 (by decide) ?f1 rfl ?_
  case f1 =>
    refine FS.one (v := .int .i64 _) rfl rfl rfl (by first | decide | simp) ?_
    refine FS.one (v := .int .i64 _) rfl rfl rfl (by first | decide | simp) ?_
    refine FS.one (v := .int .i64 _) rfl rfl rfl (by first | decide | simp) ?_
    exact FS.nil
  clear H; intro b1 w1 hb1 H F
  refine mv (v := .int .u8 _) rfl rfl ?_
  refine rem (c := 2) rfl rfl (by omega) (by omega) hx rfl ?_
  first | refine ia rfl rfl Try.underlying81 sz3_1 (by omega) rfl ?_ | refine iA rfl rfl Try.underlying81 sz3_1 (by omega) rfl ?_
  first | refine ld H rfl sc3 rfl rfl ?_ | refine lc rfl (by first | assumption | exact H.fr.cell (by assumption) (by simp)) sc3 rfl ?_ | refine ld H rfl sc3 (by assumption) rfl ?_
  refine asg (v := .int .i64 _) rfl rfl ?_
  refine nl ?_
  refine then_n ?_
  refine rt ?_
  refine fin_r ?_
  exact ⟨rfl, H.fr⟩

set_option maxRecDepth 100000 in
theorem c_FnFatEnd32 (w : World) (x y : Int) (h0 : 0 ≤ x ∧ x ≤ 255) (hx : x % 3 = 2) (hy : 0 ≤ y ∧ y ≤ 4294967295) : Calls Try.prog 10 #[.int .u8 x, .int .u32 y] w (Ret fun v w' => v = .bool true ∧ Fr [] w w') := by
  refine enter (fun ρ => ρ 4) Try.func10 rfl rfl rfl (res1 rfl) ?_
  have H := SH.nil w
  refine sq ?_
  refine rg ?_
  refine asg (v := .bool _) rfl rfl ?_
  refine nl ?_
  refine then_n ?_
  refine sq ?_
  refine rg ?_
  refine mv (v := .int .u8 _) rfl rfl ?_
  refine cl ca29 (c_fatBits32 _ x h0 hx) rfl ?_
  rintro _ w1 ⟨rfl, F⟩
  replace H := H.keep F; clear F
  refine asg (v := .int .i64 _) rfl rfl ?_
  refine nl ?_
  refine then_n ?_
  refine sq ?_
  refine rg ?_
  refine mv (v := .int .u32 _) rfl rfl ?_
  refine mkm H rfl ?_
  clear H; intro b1 w2 hb1 H F
  refine ins (v := .int .u32 _) H rfl rfl rfl Try.underlying56 Try.underlying3 (by rfl) ?_
  clear H; intro w3 H _
  refine ins (v := .int .u32 _) H rfl rfl rfl Try.underlying56 Try.underlying3 (by rfl) ?_
  clear H; intro w4 H _
  refine ins (v := .int .u32 _) H rfl rfl rfl Try.underlying56 Try.underlying3 (by rfl) ?_
  clear H; intro w5 H _
  refine mv (v := .map _) rfl rfl ?_
  refine mv (v := .int .i64 _) rfl rfl ?_
  refine lkp (v := .int .u32 _) H rfl rfl Try.underlying56 Try.underlying3 ⟨_, rfl⟩ rfl ?_
  refine band rfl rfl rfl rfl ?_
  refine asg (v := .int .u32 _) rfl rfl ?_
  refine nl ?_
  refine then_n ?_
  refine sq ?_
  refine rg ?_
  have hm := mask_rng32 y
  refine mv (v := .int .i64 _) rfl rfl ?_
  refine mv (v := .int .u32 _) rfl rfl ?_
  refine cl ca30 (c_fatEnd32 _ _ (by first | omega | decide)) rfl ?_
  rintro _ w6 ⟨rfl, F⟩
  replace H := H.keep F; clear F
  refine mv (v := .int .i64 _) rfl rfl ?_
  refine mv (v := .int .u32 _) rfl rfl ?_
  refine cvi rfl rfl Try.underlying3 (by first | exact w_i64 (by omega) | exact w_i64 (rng_i64 _) | rfl) rfl ?_
  skip
  refine cl ca31 (c_fatLast32 _ _) rfl ?_
  rintro _ w7 ⟨rfl, F⟩
  replace H := H.keep F; clear F
  refine eqlB rfl rfl Try.underlying4 rfl ?_
  refine mv (v := .bool _) rfl rfl ?_
  first | refine spL (t := 22) (b := true) rfl ?_ | refine spT (t := 22) rfl (by simp only [decide_eq_decide]; omega) ?_   -- guard 1
  refine gy rfl ?_
  refine mv (v := .int .i64 _) rfl rfl ?_
  refine gy rfl ?_
  refine mkm H rfl ?_
  clear H; intro b2 w8 hb2 H F
  refine gy rfl ?_
  refine ins (v := .int .u32 _) H rfl rfl rfl Try.underlying56 Try.underlying3 (by rfl) ?_
  clear H; intro w9 H _
  refine gy rfl ?_
  refine ins (v := .int .u32 _) H rfl rfl rfl Try.underlying56 Try.underlying3 (by rfl) ?_
  clear H; intro w10 H _
  refine gy rfl ?_
  refine ins (v := .int .u32 _) H rfl rfl rfl Try.underlying56 Try.underlying3 (by rfl) ?_
  clear H; intro w11 H _
  refine gy rfl ?_
  refine mv (v := .map _) rfl rfl ?_
  refine gy rfl ?_
  refine mv (v := .int .i64 _) rfl rfl ?_
  refine gy rfl ?_
  refine lkp (v := .int .u32 _) H rfl rfl Try.underlying56 Try.underlying3 ⟨_, rfl⟩ rfl ?_
  refine gy rfl ?_
  refine band rfl rfl rfl rfl ?_
  refine gy rfl ?_
  refine cl ca30 (c_fatEnd32 _ _ (by first | omega | decide)) rfl ?_
  rintro _ w12 ⟨rfl, F⟩
  replace H := H.keep F; clear F
  refine pkT (v := .bool _) rfl rfl rfl ?_
  refine asg (v := .bool _) rfl rfl ?_
  refine nl ?_
  refine then_n ?_
  refine rt ?_
  refine fin_r ?_
  exact ⟨congrArg Value.bool (decide_eq_true (by decide)), H.fr⟩

theorem fatEndAt (w : World) (x y : Int) (h0 : 0 ≤ x ∧ x ≤ 255) (hy : 0 ≤ y ∧ y ≤ 4294967295) : Calls Try.prog 10 #[.int .u8 x, .int .u32 y] w (Ret fun v w' => v = .bool true ∧ Fr [] w w') := by
  have h3 : x % 3 = 0 ∨ x % 3 = 1 ∨ x % 3 = 2 := by omega
  rcases h3 with h | h | h
  · exact c_FnFatEnd12 w x y h0 h hy
  · exact c_FnFatEnd16 w x y h0 h hy
  · exact c_FnFatEnd32 w x y h0 h hy

end Go.Proofs.Ytbldfojecpljoaa.X
