/- Walks of functions, printed by a program of this claim. -/
import Derived.Test.YtgmkjndmjnbahaaProg
import Derived.Test.YtgmkjndmjnbahaaFatSteps
namespace Go.Proofs.Ytgmkjndmjnbahaa.X
set_option linter.unusedVariables false
set_option linter.unusedSimpArgs false
open Go Go.RowKit

namespace T1
theorem bo50 : buildOK Try.prog 50 = true := by kernel_rfl
theorem bo52 : buildOK Try.prog 52 = true := by kernel_rfl
theorem bo54 : buildOK Try.prog 54 = true := by kernel_rfl
theorem ca15 : callable Try.prog 15 = true := by kernel_rfl
theorem ca16 : callable Try.prog 16 = true := by kernel_rfl
theorem cc44 : Try.prog.concrete 44 = true := by kernel_rfl
theorem cc46 : Try.prog.concrete 46 = true := by kernel_rfl
theorem cc48 : Try.prog.concrete 48 = true := by kernel_rfl
theorem mi24 : elemInfo Try.prog 24 = some (.int .u32 0, 4) := by kernel_rfl
theorem pl50_0 : placeOf Try.prog 50 0 = some (0, 1) := by kernel_rfl
theorem pl50_1 : placeOf Try.prog 50 1 = some (1, 1) := by kernel_rfl
theorem pl50_3 : placeOf Try.prog 50 3 = some (3, 1) := by kernel_rfl
theorem pl50_4 : placeOf Try.prog 50 4 = some (4, 1) := by kernel_rfl
theorem pl50_5 : placeOf Try.prog 50 5 = some (5, 1) := by kernel_rfl
theorem pl50_6 : placeOf Try.prog 50 6 = some (6, 1) := by kernel_rfl
theorem pl52_0 : placeOf Try.prog 52 0 = some (0, 1) := by kernel_rfl
theorem pl52_1 : placeOf Try.prog 52 1 = some (1, 1) := by kernel_rfl
theorem pl52_2 : placeOf Try.prog 52 2 = some (2, 1) := by kernel_rfl
theorem pl52_3 : placeOf Try.prog 52 3 = some (3, 1) := by kernel_rfl
theorem pl52_4 : placeOf Try.prog 52 4 = some (4, 1) := by kernel_rfl
theorem pl52_5 : placeOf Try.prog 52 5 = some (5, 1) := by kernel_rfl
theorem pl54_0 : placeOf Try.prog 54 0 = some (0, 1) := by kernel_rfl
theorem pl54_1 : placeOf Try.prog 54 1 = some (1, 1) := by kernel_rfl
theorem pl54_2 : placeOf Try.prog 54 2 = some (2, 1) := by kernel_rfl
theorem pl54_3 : placeOf Try.prog 54 3 = some (3, 1) := by kernel_rfl
theorem pl54_4 : placeOf Try.prog 54 4 = some (4, 1) := by kernel_rfl
theorem ze50 : zeroL Try.prog 50 = some [.int .u32 0, .int .u32 0, .int .u32 0, .slice none 0 0, .int .u32 0, .int .u32 0, .int .u32 0] := by kernel_rfl
theorem ze52 : zeroL Try.prog 52 = some [.int .u32 0, .int .u32 0, .int .u32 0, .slice none 0 0, .int .u32 0, .int .u32 0] := by kernel_rfl
theorem ze54 : zeroL Try.prog 54 = some [.int .u32 0, .int .u32 0, .slice none 0 0, .int .u32 0, .int .u32 0] := by kernel_rfl

end T1
open T1

set_option maxRecDepth 100000 in
set_option maxHeartbeats 1000000 in
theorem c_new12 (w : World) (n : Nat) (hn : 2 ≤ n ∧ n ≤ 300) : Calls Try.prog 15 #[.int .u32 4088, .int .u32 ((((n * 3 + 1) / 2) : Nat) : Int)] w (Ret fun v w' => ∃ t c, v = .pointer (some ⟨t, 0, none⟩) ∧ SH w [] w' [⟨t, .cells ([.int .u32 (4088), .int .u32 4095, .int .u32 0, .slice (some ⟨c, 0, none⟩) (n + 1) (n + 1), .int .u32 ((n : Nat) : Int), .int .u32 ((((n * 3 + 1) / 2) : Nat) : Int)] : List Value).toArray 52 (0, 0), true⟩, ⟨c, .cells (clR .u32 (n + 1) (fun _ => 0)).toArray 24 (0, 0), true⟩]) := by
  refine enter (fun ρ => ρ 4) Try.func15 rfl rfl rfl (res1 rfl) ?_
  have H := SH.nil w
  refine sq ?_
  refine rg ?_
  refine asg (v := .pointer _) rfl rfl ?_
  refine nl ?_
  refine then_n ?_
  refine sq ?_
  refine rg ?_
  refine mv (v := .int .u32 _) rfl rfl ?_
  refine mul rfl rfl (by first | exact w_u32 (by omega) | exact w_u32 (rng_u32 _) | exact m_u32 _) rfl ?_
  refine quo (c := (n : Int)) rfl rfl (by omega) (by omega) (by rw [w_u32 (by omega)]; omega) rfl ?_
  refine asg (v := .int .u32 _) rfl rfl ?_
  refine nl ?_
  refine then_n ?_
  refine sq ?_
  refine rg ?_
  refine mv (v := .int .u32 _) rfl rfl ?_
  refine mv (v := .int .u32 _) rfl rfl ?_
  refine add (c := ((n + 1 : Nat) : Int)) rfl rfl (by rw [w_u32 (by omega)]; omega) rfl ?_
  refine mk H rfl rfl Try.underlying22 mi24 (by omega) (by omega) (by omega) (by omega) rfl ?_
  clear H; intro b1 w1 hb1 H _
  replace H := sh_cells0 H (show List.replicate _ _ = _ from clR_zero .u32 (n + 1))
  refine mv (v := .int .u32 _) rfl rfl ?_
  refine mv (v := .int .u32 _) rfl rfl ?_
  refine bu (out := ?o1) ze52 bo52 ?f1 rfl ?_
  case f1 =>
    refine FL.one (v := .int .u32 _) rfl pl52_0 rfl (by first | decide | simp) ?_
    refine FL.one (v := .int .u32 _) rfl pl52_1 rfl (by first | decide | simp) ?_
    refine FL.one (v := .int .u32 _) rfl pl52_2 rfl (by first | decide | simp) ?_
    refine FL.one (v := .slice _ _ _) rfl pl52_3 rfl (by first | decide | simp) ?_
    refine FL.one (v := .int .u32 _) rfl pl52_4 rfl (by first | decide | simp) ?_
    refine FL.one (v := .int .u32 _) rfl pl52_5 rfl (by first | decide | simp) ?_
    exact FL.nil
  refine bx (v := .agg _) H rfl rfl rfl ?_
  clear H; intro b1 w1 hb1 H _
  refine asg (v := .pointer _) rfl rfl ?_
  refine nl ?_
  refine then_n ?_
  refine rt ?_
  refine fin_r ?_
  exact ⟨_, _, rfl, H⟩

set_option maxRecDepth 100000 in
set_option maxHeartbeats 1000000 in
theorem c_new16 (w : World) (n : Nat) (hn : 2 ≤ n ∧ n ≤ 300) : Calls Try.prog 16 #[.int .u32 65528, .int .u32 (((n * 2) : Nat) : Int)] w (Ret fun v w' => ∃ t c, v = .pointer (some ⟨t, 0, none⟩) ∧ SH w [] w' [⟨t, .cells ([.int .u32 (65528), .int .u32 65535, .slice (some ⟨c, 0, none⟩) (n + 1) (n + 1), .int .u32 ((n : Nat) : Int), .int .u32 (((n * 2) : Nat) : Int)] : List Value).toArray 54 (0, 0), true⟩, ⟨c, .cells (clR .u32 (n + 1) (fun _ => 0)).toArray 24 (0, 0), true⟩]) := by
  refine enter (fun ρ => ρ 4) Try.func16 rfl rfl rfl (res1 rfl) ?_
  have H := SH.nil w
  refine sq ?_
  refine rg ?_
  refine asg (v := .pointer _) rfl rfl ?_
  refine nl ?_
  refine then_n ?_
  refine sq ?_
  refine rg ?_
  refine mv (v := .int .u32 _) rfl rfl ?_
  refine quo (c := (n : Int)) rfl rfl (by omega) (by omega) (by rw [w_u32 (by omega)]; omega) rfl ?_
  refine asg (v := .int .u32 _) rfl rfl ?_
  refine nl ?_
  refine then_n ?_
  refine sq ?_
  refine rg ?_
  refine mv (v := .int .u32 _) rfl rfl ?_
  refine mv (v := .int .u32 _) rfl rfl ?_
  refine add (c := ((n + 1 : Nat) : Int)) rfl rfl (by rw [w_u32 (by omega)]; omega) rfl ?_
  refine mk H rfl rfl Try.underlying22 mi24 (by omega) (by omega) (by omega) (by omega) rfl ?_
  clear H; intro b1 w1 hb1 H _
  replace H := sh_cells0 H (show List.replicate _ _ = _ from clR_zero .u32 (n + 1))
  refine mv (v := .int .u32 _) rfl rfl ?_
  refine mv (v := .int .u32 _) rfl rfl ?_
  refine bu (out := ?o1) ze54 bo54 ?f1 rfl ?_
  case f1 =>
    refine FL.one (v := .int .u32 _) rfl pl54_0 rfl (by first | decide | simp) ?_
    refine FL.one (v := .int .u32 _) rfl pl54_1 rfl (by first | decide | simp) ?_
    refine FL.one (v := .slice _ _ _) rfl pl54_2 rfl (by first | decide | simp) ?_
    refine FL.one (v := .int .u32 _) rfl pl54_3 rfl (by first | decide | simp) ?_
    refine FL.one (v := .int .u32 _) rfl pl54_4 rfl (by first | decide | simp) ?_
    exact FL.nil
  refine bx (v := .agg _) H rfl rfl rfl ?_
  clear H; intro b1 w1 hb1 H _
  refine asg (v := .pointer _) rfl rfl ?_
  refine nl ?_
  refine then_n ?_
  refine rt ?_
  refine fin_r ?_
  exact ⟨_, _, rfl, H⟩

set_option maxRecDepth 100000 in
set_option maxHeartbeats 1000000 in
theorem c_zz32 (w : World) (n : Nat) (hn : 2 ≤ n ∧ n ≤ 300) : Calls Try.prog 13 #[.int .u32 268435448, .int .u32 (((n * 4) : Nat) : Int)] w (Ret fun v w' => ∃ t c, v = .iface 48 (.pointer (some ⟨t, 0, none⟩)) ∧ SH w [] w' [⟨t, .cells ([.int .u32 (268435448), .int .u32 268435455, .int .u32 0, .slice (some ⟨c, 0, none⟩) (n + 1) (n + 1), .int .u32 2, .int .u32 (((n * 4) : Nat) : Int), .int .u32 ((n : Nat) : Int)] : List Value).toArray 50 (0, 0), true⟩, ⟨c, .cells (clR .u32 (n + 1) (fun _ => 0)).toArray 24 (0, 0), true⟩]) := by
  refine enter (fun ρ => ρ 4) Try.func13 rfl rfl rfl (res1 rfl) ?_
  have H := SH.nil w
  refine sq ?_
  refine rg ?_
  refine asg (v := .nilIface) rfl rfl ?_
  refine nl ?_
  refine then_n ?_
  refine sq ?_
  refine rg ?_
  refine mv (v := .int .u32 _) rfl rfl ?_
  refine quo (c := (n : Int)) rfl rfl (by omega) (by omega) (by rw [w_u32 (by omega)]; omega) rfl ?_
  refine asg (v := .int .u32 _) rfl rfl ?_
  refine nl ?_
  refine then_n ?_
  refine sq ?_
  refine rg ?_
  refine mv (v := .int .u32 _) rfl rfl ?_
  refine mv (v := .int .u32 _) rfl rfl ?_
  refine mv (v := .int .u32 _) rfl rfl ?_
  refine add (c := ((n + 1 : Nat) : Int)) rfl rfl (by rw [w_u32 (by omega)]; omega) rfl ?_
  refine mk H rfl rfl Try.underlying22 mi24 (by omega) (by omega) (by omega) (by omega) rfl ?_
  clear H; intro b1 w1 hb1 H _
  replace H := sh_cells0 H (show List.replicate _ _ = _ from clR_zero .u32 (n + 1))
  refine mv (v := .int .u32 _) rfl rfl ?_
  refine bu (out := ?o1) ze50 bo50 ?f1 rfl ?_
  case f1 =>
    refine FL.one (v := .int .u32 _) rfl pl50_0 rfl (by first | decide | simp) ?_
    refine FL.one (v := .int .u32 _) rfl pl50_1 rfl (by first | decide | simp) ?_
    refine FL.one (v := .int .u32 _) rfl pl50_5 rfl (by first | decide | simp) ?_
    refine FL.one (v := .int .u32 _) rfl pl50_4 rfl (by first | decide | simp) ?_
    refine FL.one (v := .slice _ _ _) rfl pl50_3 rfl (by first | decide | simp) ?_
    refine FL.one (v := .int .u32 _) rfl pl50_6 rfl (by first | decide | simp) ?_
    exact FL.nil
  refine bx (v := .agg _) H rfl rfl rfl ?_
  clear H; intro b1 w1 hb1 H _
  refine mi (v := .pointer _) rfl cc48 rfl ?_
  first | refine asg (v := .nilIface) rfl rfl ?_ | refine asg (v := .iface _ _) rfl rfl ?_ | refine asg rfl rfl ?_
  refine nl ?_
  refine then_n ?_
  refine rt ?_
  refine fin_r ?_
  exact ⟨_, _, rfl, H⟩

set_option maxRecDepth 100000 in
set_option maxHeartbeats 1000000 in
theorem c_zz12 (w : World) (n : Nat) (hn : 2 ≤ n ∧ n ≤ 300) : Calls Try.prog 11 #[.int .u32 4088, .int .u32 ((((n * 3 + 1) / 2) : Nat) : Int)] w (Ret fun v w' => ∃ t c, v = .iface 44 (.pointer (some ⟨t, 0, none⟩)) ∧ SH w [] w' [⟨t, .cells ([.int .u32 (4088), .int .u32 4095, .int .u32 0, .slice (some ⟨c, 0, none⟩) (n + 1) (n + 1), .int .u32 ((n : Nat) : Int), .int .u32 ((((n * 3 + 1) / 2) : Nat) : Int)] : List Value).toArray 52 (0, 0), true⟩, ⟨c, .cells (clR .u32 (n + 1) (fun _ => 0)).toArray 24 (0, 0), true⟩]) := by
  refine enter (fun ρ => ρ 4) Try.func11 rfl rfl rfl (res1 rfl) ?_
  have H := SH.nil w
  refine sq ?_
  refine rg ?_
  refine asg (v := .nilIface) rfl rfl ?_
  refine nl ?_
  refine then_n ?_
  refine sq ?_
  refine rg ?_
  refine mv (v := .int .u32 _) rfl rfl ?_
  refine mv (v := .int .u32 _) rfl rfl ?_
  refine cl ca15 (c_new12 _ n hn) rfl ?_
  rintro _ w1 ⟨t, c, rfl, K⟩
  replace H := H.join K (by simp); simp only [List.cons_append, List.nil_append] at H; clear K
  refine mi (v := .pointer _) rfl cc44 rfl ?_
  first | refine asg (v := .nilIface) rfl rfl ?_ | refine asg (v := .iface _ _) rfl rfl ?_ | refine asg rfl rfl ?_
  refine nl ?_
  refine then_n ?_
  refine rt ?_
  refine fin_r ?_
  exact ⟨_, _, rfl, H⟩

set_option maxRecDepth 100000 in
set_option maxHeartbeats 1000000 in
theorem c_zz16 (w : World) (n : Nat) (hn : 2 ≤ n ∧ n ≤ 300) : Calls Try.prog 12 #[.int .u32 65528, .int .u32 (((n * 2) : Nat) : Int)] w (Ret fun v w' => ∃ t c, v = .iface 46 (.pointer (some ⟨t, 0, none⟩)) ∧ SH w [] w' [⟨t, .cells ([.int .u32 (65528), .int .u32 65535, .slice (some ⟨c, 0, none⟩) (n + 1) (n + 1), .int .u32 ((n : Nat) : Int), .int .u32 (((n * 2) : Nat) : Int)] : List Value).toArray 54 (0, 0), true⟩, ⟨c, .cells (clR .u32 (n + 1) (fun _ => 0)).toArray 24 (0, 0), true⟩]) := by
  refine enter (fun ρ => ρ 4) Try.func12 rfl rfl rfl (res1 rfl) ?_
  have H := SH.nil w
  refine sq ?_
  refine rg ?_
  refine asg (v := .nilIface) rfl rfl ?_
  refine nl ?_
  refine then_n ?_
  refine sq ?_
  refine rg ?_
  refine mv (v := .int .u32 _) rfl rfl ?_
  refine mv (v := .int .u32 _) rfl rfl ?_
  refine cl ca16 (c_new16 _ n hn) rfl ?_
  rintro _ w1 ⟨t, c, rfl, K⟩
  replace H := H.join K (by simp); simp only [List.cons_append, List.nil_append] at H; clear K
  refine mi (v := .pointer _) rfl cc46 rfl ?_
  first | refine asg (v := .nilIface) rfl rfl ?_ | refine asg (v := .iface _ _) rfl rfl ?_ | refine asg rfl rfl ?_
  refine nl ?_
  refine then_n ?_
  refine rt ?_
  refine fin_r ?_
  exact ⟨_, _, rfl, H⟩

end Go.Proofs.Ytgmkjndmjnbahaa.X
