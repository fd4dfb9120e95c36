/- Walks of functions, printed by a program of this claim. -/
import Derived.Test.YtgmkjndmjnbahaaT1
namespace Go.Proofs.Ytgmkjndmjnbahaa.X
set_option linter.unusedVariables false
set_option linter.unusedSimpArgs false
open Go Go.RowKit

namespace T2
theorem ca11 : callable Try.prog 11 = true := by kernel_rfl
theorem ca12 : callable Try.prog 12 = true := by kernel_rfl
theorem ca13 : callable Try.prog 13 = true := by kernel_rfl
theorem fo50_3 : fieldOff Try.prog 50 3 = some 3 := by kernel_rfl
theorem fo50_5 : fieldOff Try.prog 50 5 = some 5 := by kernel_rfl
theorem fo52_3 : fieldOff Try.prog 52 3 = some 3 := by kernel_rfl
theorem fo52_5 : fieldOff Try.prog 52 5 = some 5 := by kernel_rfl
theorem fo54_2 : fieldOff Try.prog 54 2 = some 2 := by kernel_rfl
theorem fo54_4 : fieldOff Try.prog 54 4 = some 4 := by kernel_rfl
theorem sc22 : scalarB Try.prog 22 = true := by kernel_rfl
theorem sc24 : scalarB Try.prog 24 = true := by kernel_rfl
theorem sz24_1 : sizeB Try.prog 24 1 = true := by kernel_rfl

end T2
open T2

set_option maxRecDepth 100000 in
set_option maxHeartbeats 1000000 in
theorem c_fatTable12 (w : World) (n : Nat) (hn : 2 ≤ n ∧ n ≤ 300) : Calls Try.prog 8 #[.int .i64 12, .int .i64 (n : Int)] w (Ret fun v w' => ∃ t c, v = .tuple #[.iface 44 (.pointer (some ⟨t, 0, none⟩)), .bool true] ∧ SH w [] w' [⟨t, .cells ([.int .u32 (4088), .int .u32 4095, .int .u32 0, .slice (some ⟨c, 0, none⟩) (n + 1) (n + 1), .int .u32 ((n : Nat) : Int), .int .u32 ((((n * 3 + 1) / 2) : Nat) : Int)] : List Value).toArray 52 (0, 0), true⟩, ⟨c, .cells (clR .u32 (n + 1) (fun _ => 0)).toArray 24 (0, 0), true⟩]) := by
  refine enter (fun ρ => .tuple #[ρ 4, ρ 5]) Try.func8 rfl rfl rfl (res2 rfl) ?_
  have H := SH.nil w
  refine sq ?_
  refine rg ?_
  refine asg (v := .nilIface) rfl rfl ?_
  refine asg (v := .bool _) rfl rfl ?_
  refine nl ?_
  refine then_n ?_
  refine sq ?_
  refine sq ?_
  refine rg ?_
  refine mv (v := .int .i64 _) rfl rfl ?_
  refine lss rfl rfl rfl ?_
  refine mv (v := .bool _) rfl rfl ?_
  first | refine spL (t := 8) (b := false) rfl ?_ | refine spF (t := 8) rfl (by omega) ?_   -- guard 1
  refine gy rfl ?_
  refine mv (v := .int .i64 _) rfl rfl ?_
  refine gy rfl ?_
  refine gtr rfl rfl rfl ?_
  refine pkF (v := .bool _) rfl rfl rfl ?_
  refine nl ?_
  refine then_n ?_
  first | refine cF rfl (by omega) ?_ | refine cbF rfl (by omega) ?_   -- test 1
  refine sk ?_
  refine then_n ?_
  refine sq ?_
  refine sq ?_
  refine rg ?_
  refine mv (v := .int .i64 _) rfl rfl ?_
  refine nl ?_
  refine then_n ?_
  refine bk ?_
  refine sq ?_
  refine rg ?_
  refine eql rfl rfl rfl ?_
  refine asg (v := .bool _) rfl rfl ?_
  refine nl ?_
  refine then_n ?_
  first | refine cT rfl (by decide) ?_ | refine cbT rfl (by decide) ?_   -- test 2
  refine sq ?_
  refine rg ?_
  refine mv (v := .int .i64 _) rfl rfl ?_
  refine mul rfl rfl (by first | exact w_i64 (by omega) | exact w_i64 (rng_i64 _) | rfl) rfl ?_
  refine add rfl rfl (by first | exact w_i64 (by omega) | exact w_i64 (rng_i64 _) | rfl) rfl ?_
  refine quo (c := ((((n * 3 + 1) / 2) : Nat) : Int)) rfl rfl (by omega) (by omega) (by rw [w_i64 (by omega)]; omega) rfl ?_
  refine max2 rfl rfl rfl ?_
  rw [show max (3 : Int) ((((n * 3 + 1) / 2) : Nat) : Int) = ((((n * 3 + 1) / 2) : Nat) : Int) by omega]
  refine cvi rfl rfl Try.underlying24 (by first | exact w_u32 (by omega) | exact w_u32 (rng_u32 _) | exact m_u32 _) rfl ?_
  refine cl ca11 (c_zz12 _ n hn) rfl ?_
  rintro _ w1 ⟨t, c, rfl, K⟩
  replace H := H.join K (by simp); simp only [List.cons_append, List.nil_append] at H; clear K
  first | refine asg (v := .nilIface) rfl rfl ?_ | refine asg (v := .iface _ _) rfl rfl ?_ | refine asg rfl rfl ?_
  refine asg (v := .bool _) rfl rfl ?_
  refine nl ?_
  refine then_n ?_
  refine rt ?_
  refine in_r ?_
  refine then_r ?_
  refine fin_r ?_
  exact ⟨_, _, rfl, H⟩

set_option maxRecDepth 100000 in
set_option maxHeartbeats 1000000 in
theorem c_fatTable16 (w : World) (n : Nat) (hn : 2 ≤ n ∧ n ≤ 300) : Calls Try.prog 8 #[.int .i64 16, .int .i64 (n : Int)] w (Ret fun v w' => ∃ t c, v = .tuple #[.iface 46 (.pointer (some ⟨t, 0, none⟩)), .bool true] ∧ SH w [] w' [⟨t, .cells ([.int .u32 (65528), .int .u32 65535, .slice (some ⟨c, 0, none⟩) (n + 1) (n + 1), .int .u32 ((n : Nat) : Int), .int .u32 (((n * 2) : Nat) : Int)] : List Value).toArray 54 (0, 0), true⟩, ⟨c, .cells (clR .u32 (n + 1) (fun _ => 0)).toArray 24 (0, 0), true⟩]) := by
  refine enter (fun ρ => .tuple #[ρ 4, ρ 5]) Try.func8 rfl rfl rfl (res2 rfl) ?_
  have H := SH.nil w
  refine sq ?_
  refine rg ?_
  refine asg (v := .nilIface) rfl rfl ?_
  refine asg (v := .bool _) rfl rfl ?_
  refine nl ?_
  refine then_n ?_
  refine sq ?_
  refine sq ?_
  refine rg ?_
  refine mv (v := .int .i64 _) rfl rfl ?_
  refine lss rfl rfl rfl ?_
  refine mv (v := .bool _) rfl rfl ?_
  first | refine spL (t := 8) (b := false) rfl ?_ | refine spF (t := 8) rfl (by omega) ?_   -- guard 1
  refine gy rfl ?_
  refine mv (v := .int .i64 _) rfl rfl ?_
  refine gy rfl ?_
  refine gtr rfl rfl rfl ?_
  refine pkF (v := .bool _) rfl rfl rfl ?_
  refine nl ?_
  refine then_n ?_
  first | refine cF rfl (by omega) ?_ | refine cbF rfl (by omega) ?_   -- test 1
  refine sk ?_
  refine then_n ?_
  refine sq ?_
  refine sq ?_
  refine rg ?_
  refine mv (v := .int .i64 _) rfl rfl ?_
  refine nl ?_
  refine then_n ?_
  refine bk ?_
  refine sq ?_
  refine rg ?_
  refine eql rfl rfl rfl ?_
  refine asg (v := .bool _) rfl rfl ?_
  refine nl ?_
  refine then_n ?_
  first | refine cF rfl (by decide) ?_ | refine cbF rfl (by decide) ?_   -- test 2
  refine sq ?_
  refine rg ?_
  refine eql rfl rfl rfl ?_
  refine asg (v := .bool _) rfl rfl ?_
  refine nl ?_
  refine then_n ?_
  first | refine cT rfl (by decide) ?_ | refine cbT rfl (by decide) ?_   -- test 3
  refine sq ?_
  refine rg ?_
  refine mv (v := .int .i64 _) rfl rfl ?_
  refine mul (c := (((n * 2) : Nat) : Int)) rfl rfl (by rw [w_i64 (by omega)]; omega) rfl ?_
  refine cvi rfl rfl Try.underlying24 (by first | exact w_u32 (by omega) | exact w_u32 (rng_u32 _) | exact m_u32 _) rfl ?_
  refine cl ca12 (c_zz16 _ n hn) rfl ?_
  rintro _ w1 ⟨t, c, rfl, K⟩
  replace H := H.join K (by simp); simp only [List.cons_append, List.nil_append] at H; clear K
  first | refine asg (v := .nilIface) rfl rfl ?_ | refine asg (v := .iface _ _) rfl rfl ?_ | refine asg rfl rfl ?_
  refine asg (v := .bool _) rfl rfl ?_
  refine nl ?_
  refine then_n ?_
  refine rt ?_
  refine in_r ?_
  refine then_r ?_
  refine fin_r ?_
  exact ⟨_, _, rfl, H⟩

set_option maxRecDepth 100000 in
set_option maxHeartbeats 1000000 in
theorem c_fatTable32 (w : World) (n : Nat) (hn : 2 ≤ n ∧ n ≤ 300) : Calls Try.prog 8 #[.int .i64 32, .int .i64 (n : Int)] w (Ret fun v w' => ∃ t c, v = .tuple #[.iface 48 (.pointer (some ⟨t, 0, none⟩)), .bool true] ∧ SH w [] w' [⟨t, .cells ([.int .u32 (268435448), .int .u32 268435455, .int .u32 0, .slice (some ⟨c, 0, none⟩) (n + 1) (n + 1), .int .u32 2, .int .u32 (((n * 4) : Nat) : Int), .int .u32 ((n : Nat) : Int)] : List Value).toArray 50 (0, 0), true⟩, ⟨c, .cells (clR .u32 (n + 1) (fun _ => 0)).toArray 24 (0, 0), true⟩]) := by
  refine enter (fun ρ => .tuple #[ρ 4, ρ 5]) Try.func8 rfl rfl rfl (res2 rfl) ?_
  have H := SH.nil w
  refine sq ?_
  refine rg ?_
  refine asg (v := .nilIface) rfl rfl ?_
  refine asg (v := .bool _) rfl rfl ?_
  refine nl ?_
  refine then_n ?_
  refine sq ?_
  refine sq ?_
  refine rg ?_
  refine mv (v := .int .i64 _) rfl rfl ?_
  refine lss rfl rfl rfl ?_
  refine mv (v := .bool _) rfl rfl ?_
  first | refine spL (t := 8) (b := false) rfl ?_ | refine spF (t := 8) rfl (by omega) ?_   -- guard 1
  refine gy rfl ?_
  refine mv (v := .int .i64 _) rfl rfl ?_
  refine gy rfl ?_
  refine gtr rfl rfl rfl ?_
  refine pkF (v := .bool _) rfl rfl rfl ?_
  refine nl ?_
  refine then_n ?_
  first | refine cF rfl (by omega) ?_ | refine cbF rfl (by omega) ?_   -- test 1
  refine sk ?_
  refine then_n ?_
  refine sq ?_
  refine sq ?_
  refine rg ?_
  refine mv (v := .int .i64 _) rfl rfl ?_
  refine nl ?_
  refine then_n ?_
  refine bk ?_
  refine sq ?_
  refine rg ?_
  refine eql rfl rfl rfl ?_
  refine asg (v := .bool _) rfl rfl ?_
  refine nl ?_
  refine then_n ?_
  first | refine cF rfl (by decide) ?_ | refine cbF rfl (by decide) ?_   -- test 2
  refine sq ?_
  refine rg ?_
  refine eql rfl rfl rfl ?_
  refine asg (v := .bool _) rfl rfl ?_
  refine nl ?_
  refine then_n ?_
  first | refine cF rfl (by decide) ?_ | refine cbF rfl (by decide) ?_   -- test 3
  refine sq ?_
  refine rg ?_
  refine eql rfl rfl rfl ?_
  refine asg (v := .bool _) rfl rfl ?_
  refine nl ?_
  refine then_n ?_
  first | refine cT rfl (by decide) ?_ | refine cbT rfl (by decide) ?_   -- test 4
  refine sq ?_
  refine rg ?_
  refine mv (v := .int .i64 _) rfl rfl ?_
  refine mul (c := (((n * 4) : Nat) : Int)) rfl rfl (by rw [w_i64 (by omega)]; omega) rfl ?_
  refine cvi rfl rfl Try.underlying24 (by first | exact w_u32 (by omega) | exact w_u32 (rng_u32 _) | exact m_u32 _) rfl ?_
  refine cl ca13 (c_zz32 _ n hn) rfl ?_
  rintro _ w1 ⟨t, c, rfl, K⟩
  replace H := H.join K (by simp); simp only [List.cons_append, List.nil_append] at H; clear K
  first | refine asg (v := .nilIface) rfl rfl ?_ | refine asg (v := .iface _ _) rfl rfl ?_ | refine asg rfl rfl ?_
  refine asg (v := .bool _) rfl rfl ?_
  refine nl ?_
  refine then_n ?_
  refine rt ?_
  refine in_r ?_
  refine then_r ?_
  refine fin_r ?_
  exact ⟨_, _, rfl, H⟩

set_option maxRecDepth 100000 in
set_option maxHeartbeats 1000000 in
theorem c_set12 (w : World) (t c n i : Nat) (x9 : Int) (f : Nat → Int) (hi : i < n + 1) (hne : t ≠ c) (ht : w.heap[t]? = some (.cells ([.int .u32 (4088), .int .u32 4095, .int .u32 0, .slice (some ⟨c, 0, none⟩) (n + 1) (n + 1), .int .u32 ((n : Nat) : Int), .int .u32 ((((n * 3 + 1) / 2) : Nat) : Int)] : List Value).toArray 52 (0, 0))) (hc : w.heap[c]? = some (.cells (clR .u32 (n + 1) (f)).toArray 24 (0, 0))) : Calls Try.prog 41 #[.pointer (some ⟨t, 0, none⟩), .int .u32 (i : Int), .int .u32 x9] w (Ret fun v w' => v = .tuple #[] ∧ Fr [c] w w' ∧ w'.heap[c]? = some (.cells (clR .u32 (n + 1) (fun x => if x = i then x9 else f x)).toArray 24 (0, 0))) := by
  refine enter (fun _ => .tuple #[]) Try.func41 rfl rfl rfl (res0 rfl) ?_
  have H := SH.row ht hc hne
  refine rg ?_
  refine mv (v := .pointer _) rfl rfl ?_
  first | refine nc rfl rfl ?_ | refine nci rfl rfl ?_
  refine fa rfl fo52_3 rfl ?_
  first | refine ld H rfl sc22 rfl rfl ?_ | refine lc rfl (by first | assumption | exact H.fr.cell (by assumption) (by simp)) sc22 rfl ?_ | refine ld H rfl sc22 (by assumption) rfl ?_
  refine mv (v := .int .u32 _) rfl rfl ?_
  refine mv (v := .int .u32 _) rfl rfl ?_
  refine iaN (i) rfl rfl Try.underlying22 sz24_1 (by omega) (by omega) rfl ?_
  refine st (v := .int .u32 x9) H rfl rfl sc24 rfl (by rw [clR_len]; omega) (by omega) ?_
  clear H; intro w9 H F9
  rw [clR_set] at H
  refine nl ?_
  refine fin_n ?_
  exact ⟨rfl, H.fr, H.look⟩

set_option maxRecDepth 100000 in
set_option maxHeartbeats 1000000 in
theorem c_val12 (w : World) (t c n i : Nat) (id : Int) (f : Nat → Int) (hi : i < n + 1) (ht : w.heap[t]? = some (.cells ([.int .u32 (id), .int .u32 4095, .int .u32 0, .slice (some ⟨c, 0, none⟩) (n + 1) (n + 1), .int .u32 ((n : Nat) : Int), .int .u32 ((((n * 3 + 1) / 2) : Nat) : Int)] : List Value).toArray 52 (0, 0))) (hc : w.heap[c]? = some (.cells (clR .u32 (n + 1) (f)).toArray 24 (0, 0))) : Calls Try.prog 34 #[.pointer (some ⟨t, 0, none⟩), .int .u32 (i : Int)] w (Ret fun v w' => v = .int .u32 (f i) ∧ Fr [] w w') := by
  refine enter (fun ρ => ρ 4) Try.func34 rfl rfl rfl (res1 rfl) ?_
  have H := SH.ro2 ht hc
  refine sq ?_
  refine rg ?_
  refine asg (v := .int .u32 _) rfl rfl ?_
  refine nl ?_
  refine then_n ?_
  refine sq ?_
  refine rg ?_
  refine mv (v := .pointer _) rfl rfl ?_
  first | refine nc rfl rfl ?_ | refine nci rfl rfl ?_
  refine fa rfl fo52_3 rfl ?_
  first | refine ld H rfl sc22 rfl rfl ?_ | refine lc rfl (by first | assumption | exact H.fr.cell (by assumption) (by simp)) sc22 rfl ?_ | refine ld H rfl sc22 (by assumption) rfl ?_
  refine mv (v := .int .u32 _) rfl rfl ?_
  refine iaN (i) rfl rfl Try.underlying22 sz24_1 (by omega) (by omega) rfl ?_
  refine ld (v := .int .u32 (f i)) H rfl sc24 (clR_get hi) rfl ?_
  refine asg (v := .int .u32 _) rfl rfl ?_
  refine nl ?_
  refine then_n ?_
  refine rt ?_
  refine fin_r ?_
  exact ⟨rfl, H.fr⟩

set_option maxRecDepth 100000 in
set_option maxHeartbeats 1000000 in
theorem c_size12 (w : World) (t c n : Nat) (ht : w.heap[t]? = some (.cells ([.int .u32 (4088), .int .u32 4095, .int .u32 0, .slice (some ⟨c, 0, none⟩) (n + 1) (n + 1), .int .u32 ((n : Nat) : Int), .int .u32 ((((n * 3 + 1) / 2) : Nat) : Int)] : List Value).toArray 52 (0, 0))) : Calls Try.prog 42 #[.pointer (some ⟨t, 0, none⟩)] w (Ret fun v w' => v = .int .u32 ((((n * 3 + 1) / 2) : Nat) : Int) ∧ Fr [] w w') := by
  refine enter (fun ρ => ρ 2) Try.func42 rfl rfl rfl (res1 rfl) ?_
  have H := SH.ro1 ht
  refine sq ?_
  refine rg ?_
  refine asg (v := .int .u32 _) rfl rfl ?_
  refine nl ?_
  refine then_n ?_
  refine sq ?_
  refine rg ?_
  refine mv (v := .pointer _) rfl rfl ?_
  first | refine nc rfl rfl ?_ | refine nci rfl rfl ?_
  refine fa rfl fo52_5 rfl ?_
  first | refine ld H rfl sc24 rfl rfl ?_ | refine lc rfl (by first | assumption | exact H.fr.cell (by assumption) (by simp)) sc24 rfl ?_ | refine ld H rfl sc24 (by assumption) rfl ?_
  refine asg (v := .int .u32 _) rfl rfl ?_
  refine nl ?_
  refine then_n ?_
  refine rt ?_
  refine fin_r ?_
  exact ⟨rfl, H.fr⟩

set_option maxRecDepth 100000 in
set_option maxHeartbeats 1000000 in
theorem c_set16 (w : World) (t c n i : Nat) (x9 : Int) (f : Nat → Int) (hi : i < n + 1) (hne : t ≠ c) (ht : w.heap[t]? = some (.cells ([.int .u32 (65528), .int .u32 65535, .slice (some ⟨c, 0, none⟩) (n + 1) (n + 1), .int .u32 ((n : Nat) : Int), .int .u32 (((n * 2) : Nat) : Int)] : List Value).toArray 54 (0, 0))) (hc : w.heap[c]? = some (.cells (clR .u32 (n + 1) (f)).toArray 24 (0, 0))) : Calls Try.prog 54 #[.pointer (some ⟨t, 0, none⟩), .int .u32 (i : Int), .int .u32 x9] w (Ret fun v w' => v = .tuple #[] ∧ Fr [c] w w' ∧ w'.heap[c]? = some (.cells (clR .u32 (n + 1) (fun x => if x = i then x9 else f x)).toArray 24 (0, 0))) := by
  refine enter (fun _ => .tuple #[]) Try.func54 rfl rfl rfl (res0 rfl) ?_
  have H := SH.row ht hc hne
  refine rg ?_
  refine mv (v := .pointer _) rfl rfl ?_
  first | refine nc rfl rfl ?_ | refine nci rfl rfl ?_
  refine fa rfl fo54_2 rfl ?_
  first | refine ld H rfl sc22 rfl rfl ?_ | refine lc rfl (by first | assumption | exact H.fr.cell (by assumption) (by simp)) sc22 rfl ?_ | refine ld H rfl sc22 (by assumption) rfl ?_
  refine mv (v := .int .u32 _) rfl rfl ?_
  refine mv (v := .int .u32 _) rfl rfl ?_
  refine iaN (i) rfl rfl Try.underlying22 sz24_1 (by omega) (by omega) rfl ?_
  refine st (v := .int .u32 x9) H rfl rfl sc24 rfl (by rw [clR_len]; omega) (by omega) ?_
  clear H; intro w9 H F9
  rw [clR_set] at H
  refine nl ?_
  refine fin_n ?_
  exact ⟨rfl, H.fr, H.look⟩

set_option maxRecDepth 100000 in
set_option maxHeartbeats 1000000 in
theorem c_val16 (w : World) (t c n i : Nat) (id : Int) (f : Nat → Int) (hi : i < n + 1) (ht : w.heap[t]? = some (.cells ([.int .u32 (id), .int .u32 65535, .slice (some ⟨c, 0, none⟩) (n + 1) (n + 1), .int .u32 ((n : Nat) : Int), .int .u32 (((n * 2) : Nat) : Int)] : List Value).toArray 54 (0, 0))) (hc : w.heap[c]? = some (.cells (clR .u32 (n + 1) (f)).toArray 24 (0, 0))) : Calls Try.prog 47 #[.pointer (some ⟨t, 0, none⟩), .int .u32 (i : Int)] w (Ret fun v w' => v = .int .u32 (f i) ∧ Fr [] w w') := by
  refine enter (fun ρ => ρ 4) Try.func47 rfl rfl rfl (res1 rfl) ?_
  have H := SH.ro2 ht hc
  refine sq ?_
  refine rg ?_
  refine asg (v := .int .u32 _) rfl rfl ?_
  refine nl ?_
  refine then_n ?_
  refine sq ?_
  refine rg ?_
  refine mv (v := .pointer _) rfl rfl ?_
  first | refine nc rfl rfl ?_ | refine nci rfl rfl ?_
  refine fa rfl fo54_2 rfl ?_
  first | refine ld H rfl sc22 rfl rfl ?_ | refine lc rfl (by first | assumption | exact H.fr.cell (by assumption) (by simp)) sc22 rfl ?_ | refine ld H rfl sc22 (by assumption) rfl ?_
  refine mv (v := .int .u32 _) rfl rfl ?_
  refine iaN (i) rfl rfl Try.underlying22 sz24_1 (by omega) (by omega) rfl ?_
  refine ld (v := .int .u32 (f i)) H rfl sc24 (clR_get hi) rfl ?_
  refine asg (v := .int .u32 _) rfl rfl ?_
  refine nl ?_
  refine then_n ?_
  refine rt ?_
  refine fin_r ?_
  exact ⟨rfl, H.fr⟩

set_option maxRecDepth 100000 in
set_option maxHeartbeats 1000000 in
theorem c_size16 (w : World) (t c n : Nat) (ht : w.heap[t]? = some (.cells ([.int .u32 (65528), .int .u32 65535, .slice (some ⟨c, 0, none⟩) (n + 1) (n + 1), .int .u32 ((n : Nat) : Int), .int .u32 (((n * 2) : Nat) : Int)] : List Value).toArray 54 (0, 0))) : Calls Try.prog 55 #[.pointer (some ⟨t, 0, none⟩)] w (Ret fun v w' => v = .int .u32 (((n * 2) : Nat) : Int) ∧ Fr [] w w') := by
  refine enter (fun ρ => ρ 2) Try.func55 rfl rfl rfl (res1 rfl) ?_
  have H := SH.ro1 ht
  refine sq ?_
  refine rg ?_
  refine asg (v := .int .u32 _) rfl rfl ?_
  refine nl ?_
  refine then_n ?_
  refine sq ?_
  refine rg ?_
  refine mv (v := .pointer _) rfl rfl ?_
  first | refine nc rfl rfl ?_ | refine nci rfl rfl ?_
  refine fa rfl fo54_4 rfl ?_
  first | refine ld H rfl sc24 rfl rfl ?_ | refine lc rfl (by first | assumption | exact H.fr.cell (by assumption) (by simp)) sc24 rfl ?_ | refine ld H rfl sc24 (by assumption) rfl ?_
  refine asg (v := .int .u32 _) rfl rfl ?_
  refine nl ?_
  refine then_n ?_
  refine rt ?_
  refine fin_r ?_
  exact ⟨rfl, H.fr⟩

set_option maxRecDepth 100000 in
set_option maxHeartbeats 1000000 in
theorem c_set32 (w : World) (t c n i : Nat) (x9 : Int) (f : Nat → Int) (hi : i < n + 1) (hne : t ≠ c) (ht : w.heap[t]? = some (.cells ([.int .u32 (268435448), .int .u32 268435455, .int .u32 0, .slice (some ⟨c, 0, none⟩) (n + 1) (n + 1), .int .u32 2, .int .u32 (((n * 4) : Nat) : Int), .int .u32 ((n : Nat) : Int)] : List Value).toArray 50 (0, 0))) (hc : w.heap[c]? = some (.cells (clR .u32 (n + 1) (f)).toArray 24 (0, 0))) : Calls Try.prog 67 #[.pointer (some ⟨t, 0, none⟩), .int .u32 (i : Int), .int .u32 x9] w (Ret fun v w' => v = .tuple #[] ∧ Fr [c] w w' ∧ w'.heap[c]? = some (.cells (clR .u32 (n + 1) (fun x => if x = i then x9 else f x)).toArray 24 (0, 0))) := by
  refine enter (fun _ => .tuple #[]) Try.func67 rfl rfl rfl (res0 rfl) ?_
  have H := SH.row ht hc hne
  refine rg ?_
  refine mv (v := .pointer _) rfl rfl ?_
  first | refine nc rfl rfl ?_ | refine nci rfl rfl ?_
  refine fa rfl fo50_3 rfl ?_
  first | refine ld H rfl sc22 rfl rfl ?_ | refine lc rfl (by first | assumption | exact H.fr.cell (by assumption) (by simp)) sc22 rfl ?_ | refine ld H rfl sc22 (by assumption) rfl ?_
  refine mv (v := .int .u32 _) rfl rfl ?_
  refine mv (v := .int .u32 _) rfl rfl ?_
  refine iaN (i) rfl rfl Try.underlying22 sz24_1 (by omega) (by omega) rfl ?_
  refine st (v := .int .u32 x9) H rfl rfl sc24 rfl (by rw [clR_len]; omega) (by omega) ?_
  clear H; intro w9 H F9
  rw [clR_set] at H
  refine nl ?_
  refine fin_n ?_
  exact ⟨rfl, H.fr, H.look⟩

set_option maxRecDepth 100000 in
set_option maxHeartbeats 1000000 in
theorem c_val32 (w : World) (t c n i : Nat) (id : Int) (f : Nat → Int) (hi : i < n + 1) (ht : w.heap[t]? = some (.cells ([.int .u32 (id), .int .u32 268435455, .int .u32 0, .slice (some ⟨c, 0, none⟩) (n + 1) (n + 1), .int .u32 2, .int .u32 (((n * 4) : Nat) : Int), .int .u32 ((n : Nat) : Int)] : List Value).toArray 50 (0, 0))) (hc : w.heap[c]? = some (.cells (clR .u32 (n + 1) (f)).toArray 24 (0, 0))) : Calls Try.prog 60 #[.pointer (some ⟨t, 0, none⟩), .int .u32 (i : Int)] w (Ret fun v w' => v = .int .u32 (f i) ∧ Fr [] w w') := by
  refine enter (fun ρ => ρ 4) Try.func60 rfl rfl rfl (res1 rfl) ?_
  have H := SH.ro2 ht hc
  refine sq ?_
  refine rg ?_
  refine asg (v := .int .u32 _) rfl rfl ?_
  refine nl ?_
  refine then_n ?_
  refine sq ?_
  refine rg ?_
  refine mv (v := .pointer _) rfl rfl ?_
  first | refine nc rfl rfl ?_ | refine nci rfl rfl ?_
  refine fa rfl fo50_3 rfl ?_
  first | refine ld H rfl sc22 rfl rfl ?_ | refine lc rfl (by first | assumption | exact H.fr.cell (by assumption) (by simp)) sc22 rfl ?_ | refine ld H rfl sc22 (by assumption) rfl ?_
  refine mv (v := .int .u32 _) rfl rfl ?_
  refine iaN (i) rfl rfl Try.underlying22 sz24_1 (by omega) (by omega) rfl ?_
  refine ld (v := .int .u32 (f i)) H rfl sc24 (clR_get hi) rfl ?_
  refine asg (v := .int .u32 _) rfl rfl ?_
  refine nl ?_
  refine then_n ?_
  refine rt ?_
  refine fin_r ?_
  exact ⟨rfl, H.fr⟩

set_option maxRecDepth 100000 in
set_option maxHeartbeats 1000000 in
theorem c_size32 (w : World) (t c n : Nat) (ht : w.heap[t]? = some (.cells ([.int .u32 (268435448), .int .u32 268435455, .int .u32 0, .slice (some ⟨c, 0, none⟩) (n + 1) (n + 1), .int .u32 2, .int .u32 (((n * 4) : Nat) : Int), .int .u32 ((n : Nat) : Int)] : List Value).toArray 50 (0, 0))) : Calls Try.prog 68 #[.pointer (some ⟨t, 0, none⟩)] w (Ret fun v w' => v = .int .u32 (((n * 4) : Nat) : Int) ∧ Fr [] w w') := by
  refine enter (fun ρ => ρ 2) Try.func68 rfl rfl rfl (res1 rfl) ?_
  have H := SH.ro1 ht
  refine sq ?_
  refine rg ?_
  refine asg (v := .int .u32 _) rfl rfl ?_
  refine nl ?_
  refine then_n ?_
  refine sq ?_
  refine rg ?_
  refine mv (v := .pointer _) rfl rfl ?_
  first | refine nc rfl rfl ?_ | refine nci rfl rfl ?_
  refine fa rfl fo50_5 rfl ?_
  first | refine ld H rfl sc24 rfl rfl ?_ | refine lc rfl (by first | assumption | exact H.fr.cell (by assumption) (by simp)) sc24 rfl ?_ | refine ld H rfl sc24 (by assumption) rfl ?_
  refine asg (v := .int .u32 _) rfl rfl ?_
  refine nl ?_
  refine then_n ?_
  refine rt ?_
  refine fin_r ?_
  exact ⟨rfl, H.fr⟩

end Go.Proofs.Ytgmkjndmjnbahaa.X
