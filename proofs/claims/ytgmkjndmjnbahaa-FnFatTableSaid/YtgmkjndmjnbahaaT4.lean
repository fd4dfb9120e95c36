/- Walks of functions, printed by a program of this claim. -/
import Derived.Test.YtgmkjndmjnbahaaT3
namespace Go.Proofs.Ytgmkjndmjnbahaa.X
set_option linter.unusedVariables false
set_option linter.unusedSimpArgs false
open Go Go.RowKit

namespace T4
theorem sc5 : scalarB Try.prog 5 = true := by kernel_rfl
theorem sz5_1 : sizeB Try.prog 5 1 = true := by kernel_rfl

end T4
open T4

set_option maxRecDepth 100000 in
set_option maxHeartbeats 1000000 in
theorem c_w12e (w : World) (q sz h : Nat) (T : TypeId) (f : Nat → Int) (hh : 1 ≤ h) (hz : sz ≤ 1000) (h1 : 3 * h + 1 < sz) (hv : 0 ≤ f (2 * h) ∧ f (2 * h) ≤ 4095) (hq : w.heap[q]? = some (.cells (Bs (b12 sz f (2 * h))).toArray T (0, 0))) : Calls Try.prog 44 #[.slice (some ⟨q, 0, none⟩) sz sz, .int .u32 ((2 * h : Nat) : Int), .int .u32 (f (2 * h))] w (Ret fun v w' => v = .tuple #[] ∧ Fr [q] w w' ∧ w'.heap[q]? = some (.cells (Bs (b12 sz f (2 * h + 1))).toArray T (0, 0))) := by
  refine enter (fun _ => .tuple #[]) Try.func44 rfl rfl rfl (res0 rfl) ?_
  have H := SH.rw1 hq
  have hbl := b12_len sz f (2 * h)
  refine sq ?_
  refine rg ?_
  refine mv (v := .int .u32 _) rfl rfl ?_
  refine mul rfl rfl (by first | exact w_u32 (by omega) | exact w_u32 (rng_u32 _) | exact m_u32 _) rfl ?_
  refine quo (c := ((3 * h : Nat) : Int)) rfl rfl (by omega) (by omega) (by rw [w_u32 (by omega)]; omega) rfl ?_
  refine asg (v := .int .u32 _) rfl rfl ?_
  refine nl ?_
  refine then_n ?_
  refine sq ?_
  refine sq ?_
  refine rg ?_
  refine mv (v := .int .u32 _) rfl rfl ?_
  refine add (c := ((3 * h + 1 : Nat) : Int)) rfl rfl (by rw [w_u32 (by omega)]; omega) rfl ?_
  refine mv (v := .slice _ _ _) rfl rfl ?_
  refine lnS rfl Try.underlying36 rfl ?_
  refine cvi rfl rfl Try.underlying24 (by first | exact w_u32 (by omega) | exact w_u32 (rng_u32 _) | exact m_u32 _) rfl ?_
  refine geq rfl rfl rfl ?_
  refine nl ?_
  refine then_n ?_
  first | refine cF rfl (by omega) ?_ | refine cbF rfl (by omega) ?_   -- test 1
  refine sk ?_
  refine then_n ?_
  refine sq ?_
  refine rg ?_
  refine mv (v := .int .u32 _) rfl rfl ?_
  refine rem (c := 0) rfl rfl (by omega) (by omega) (by omega) rfl ?_
  refine eql rfl rfl rfl ?_
  refine nl ?_
  refine then_n ?_
  first | refine cT rfl rfl ?_ | refine cbT rfl rfl ?_   -- test 2
  refine sq ?_
  refine rg ?_
  refine mv (v := .slice _ _ _) rfl rfl ?_
  refine mv (v := .int .u32 _) rfl rfl ?_
  refine mv (v := .int .u32 _) rfl rfl ?_
  refine cvi (c := f (2 * h) % 256) rfl rfl Try.underlying5 (m_u8 _) rfl ?_
  refine iaN (3 * h) rfl rfl Try.underlying36 sz5_1 (by omega) (by omega) rfl ?_
  first | refine stb H rfl rfl sc5 (by omega) (by first | decide | (simp only [List.length_set, List.length_cons, List.length_nil, List.length_replicate, List.length_append, Bs_length]; omega) | omega) (by omega) ?_ | refine st (v := .int .u8 _) H rfl rfl sc5 rfl (by first | decide | (simp only [List.length_set, List.length_cons, List.length_nil, List.length_replicate, List.length_append, Bs_length]; omega) | omega) (by omega) ?_
  clear H; intro w1 H _
  refine nl ?_
  refine then_n ?_
  refine rg ?_
  refine mv (v := .slice _ _ _) rfl rfl ?_
  refine mv (v := .int .u32 _) rfl rfl ?_
  refine add (c := ((3 * h + 1 : Nat) : Int)) rfl rfl (by rw [w_u32 (by omega)]; omega) rfl ?_
  refine mv (v := .slice _ _ _) rfl rfl ?_
  refine mv (v := .int .u32 _) rfl rfl ?_
  refine add (c := ((3 * h + 1 : Nat) : Int)) rfl rfl (by rw [w_u32 (by omega)]; omega) rfl ?_
  refine iaN (3 * h + 1) rfl rfl Try.underlying36 sz5_1 (by omega) (by omega) rfl ?_
  refine ldb H rfl sc5 (by rw [List.length_set]; omega) rfl ?_; intro hu1
  rw [b12_free hh h1]
  refine band rfl rfl rfl rfl ?_
  refine mv (v := .int .u32 _) rfl rfl ?_
  refine shrK (s := 8) (p := 256) rfl rfl (by decide) (by decide) rfl rfl ?_
  refine cvi rfl rfl Try.underlying5 (by first | exact w_u8 (by omega) | exact w_u8 (rng_u8 _) | exact m_u8 _) rfl ?_
  refine bor (c := f (2 * h) / 256) rfl rfl (or0_u8 (by omega)) rfl ?_
  refine iaN (3 * h + 1) rfl rfl Try.underlying36 sz5_1 (by omega) (by omega) rfl ?_
  first | refine stb H rfl rfl sc5 (by omega) (by first | decide | (simp only [List.length_set, List.length_cons, List.length_nil, List.length_replicate, List.length_append, Bs_length]; omega) | omega) (by omega) ?_ | refine st (v := .int .u8 _) H rfl rfl sc5 rfl (by first | decide | (simp only [List.length_set, List.length_cons, List.length_nil, List.length_replicate, List.length_append, Bs_length]; omega) | omega) (by omega) ?_
  clear H; intro w2 H _
  refine nl ?_
  refine fin_n ?_
  rw [b12_even hh hv] at H
  exact ⟨rfl, H.fr, H.look⟩

set_option maxRecDepth 100000 in
set_option maxHeartbeats 1000000 in
theorem c_w12o (w : World) (q sz h : Nat) (T : TypeId) (f : Nat → Int) (hh : 1 ≤ h) (hz : sz ≤ 1000) (h1 : 3 * h + 2 < sz) (hv : 0 ≤ f (2 * h + 1) ∧ f (2 * h + 1) ≤ 4095) (hq : w.heap[q]? = some (.cells (Bs (b12 sz f (2 * h + 1))).toArray T (0, 0))) : Calls Try.prog 44 #[.slice (some ⟨q, 0, none⟩) sz sz, .int .u32 ((2 * h + 1 : Nat) : Int), .int .u32 (f (2 * h + 1))] w (Ret fun v w' => v = .tuple #[] ∧ Fr [q] w w' ∧ w'.heap[q]? = some (.cells (Bs (b12 sz f (2 * h + 1 + 1))).toArray T (0, 0))) := by
  refine enter (fun _ => .tuple #[]) Try.func44 rfl rfl rfl (res0 rfl) ?_
  have H := SH.rw1 hq
  have hbl := b12_len sz f (2 * h + 1)
  have hnb := nib_rng f (2 * h + 1) (2 * (3 * h + 1))
  refine sq ?_
  refine rg ?_
  refine mv (v := .int .u32 _) rfl rfl ?_
  refine mul rfl rfl (by first | exact w_u32 (by omega) | exact w_u32 (rng_u32 _) | exact m_u32 _) rfl ?_
  refine quo (c := ((3 * h + 1 : Nat) : Int)) rfl rfl (by omega) (by omega) (by rw [w_u32 (by omega)]; omega) rfl ?_
  refine asg (v := .int .u32 _) rfl rfl ?_
  refine nl ?_
  refine then_n ?_
  refine sq ?_
  refine sq ?_
  refine rg ?_
  refine mv (v := .int .u32 _) rfl rfl ?_
  refine add (c := ((3 * h + 2 : Nat) : Int)) rfl rfl (by rw [w_u32 (by omega)]; omega) rfl ?_
  refine mv (v := .slice _ _ _) rfl rfl ?_
  refine lnS rfl Try.underlying36 rfl ?_
  refine cvi rfl rfl Try.underlying24 (by first | exact w_u32 (by omega) | exact w_u32 (rng_u32 _) | exact m_u32 _) rfl ?_
  refine geq rfl rfl rfl ?_
  refine nl ?_
  refine then_n ?_
  first | refine cF rfl (by omega) ?_ | refine cbF rfl (by omega) ?_   -- test 1
  refine sk ?_
  refine then_n ?_
  refine sq ?_
  refine rg ?_
  refine mv (v := .int .u32 _) rfl rfl ?_
  refine rem (c := 1) rfl rfl (by omega) (by omega) (by omega) rfl ?_
  refine eql rfl rfl rfl ?_
  refine nl ?_
  refine then_n ?_
  first | refine cF rfl (by decide) ?_ | refine cbF rfl (by decide) ?_   -- test 2
  refine sq ?_
  refine rg ?_
  refine mv (v := .slice _ _ _) rfl rfl ?_
  refine mv (v := .int .u32 _) rfl rfl ?_
  refine mv (v := .slice _ _ _) rfl rfl ?_
  refine mv (v := .int .u32 _) rfl rfl ?_
  refine iaN (3 * h + 1) rfl rfl Try.underlying36 sz5_1 (by omega) (by omega) rfl ?_
  first | (refine ldb H rfl sc5 (by omega) rfl ?_; intro hu1) | refine ld H rfl sc5 rfl rfl ?_ | refine lc rfl (by first | assumption | exact H.fr.cell (by assumption) (by simp)) sc5 rfl ?_
  refine band (c := nibF f (2 * h + 1) (2 * (3 * h + 1))) rfl rfl (b12_half hh (by omega)) rfl ?_
  refine mv (v := .int .u32 _) rfl rfl ?_
  refine shlK (s := 4) (p := 16) rfl rfl (by decide) (by decide) (by first | exact w_u32 (by omega) | exact w_u32 (rng_u32 _) | exact m_u32 _) rfl ?_
  refine cvi (c := 16 * (f (2 * h + 1) % 16)) rfl rfl Try.underlying5 (by rw [m_u8]; omega) rfl ?_
  refine bor (c := nibF f (2 * h + 1) (2 * (3 * h + 1)) + 16 * (f (2 * h + 1) % 16)) rfl rfl (or_u8 (by omega) (by omega)) rfl ?_
  refine iaN (3 * h + 1) rfl rfl Try.underlying36 sz5_1 (by omega) (by omega) rfl ?_
  first | refine stb H rfl rfl sc5 (by omega) (by first | decide | (simp only [List.length_set, List.length_cons, List.length_nil, List.length_replicate, List.length_append, Bs_length]; omega) | omega) (by omega) ?_ | refine st (v := .int .u8 _) H rfl rfl sc5 rfl (by first | decide | (simp only [List.length_set, List.length_cons, List.length_nil, List.length_replicate, List.length_append, Bs_length]; omega) | omega) (by omega) ?_
  clear H; intro w1 H _
  refine nl ?_
  refine then_n ?_
  refine rg ?_
  refine mv (v := .slice _ _ _) rfl rfl ?_
  refine mv (v := .int .u32 _) rfl rfl ?_
  refine add (c := ((3 * h + 2 : Nat) : Int)) rfl rfl (by rw [w_u32 (by omega)]; omega) rfl ?_
  refine mv (v := .int .u32 _) rfl rfl ?_
  refine shrK (s := 4) (p := 16) rfl rfl (by decide) (by decide) rfl rfl ?_
  refine cvi rfl rfl Try.underlying5 (by first | exact w_u8 (by omega) | exact w_u8 (rng_u8 _) | exact m_u8 _) rfl ?_
  refine iaN (3 * h + 2) rfl rfl Try.underlying36 sz5_1 (by omega) (by omega) rfl ?_
  first | refine stb H rfl rfl sc5 (by omega) (by first | decide | (simp only [List.length_set, List.length_cons, List.length_nil, List.length_replicate, List.length_append, Bs_length]; omega) | omega) (by omega) ?_ | refine st (v := .int .u8 _) H rfl rfl sc5 rfl (by first | decide | (simp only [List.length_set, List.length_cons, List.length_nil, List.length_replicate, List.length_append, Bs_length]; omega) | omega) (by omega) ?_
  clear H; intro w2 H _
  refine nl ?_
  refine fin_n ?_
  rw [b12_odd hh hv rfl] at H
  exact ⟨rfl, H.fr, H.look⟩

theorem c_w12 (w : World) (q sz i : Nat) (T : TypeId) (f : Nat → Int) (hi : 2 ≤ i) (hz : sz ≤ 1000) (h1 : 3 * i / 2 + 1 < sz) (hv : 0 ≤ f i ∧ f i ≤ 4095) (hq : w.heap[q]? = some (.cells (Bs (b12 sz f i)).toArray T (0, 0))) : Calls Try.prog 44 #[.slice (some ⟨q, 0, none⟩) sz sz, .int .u32 (i : Int), .int .u32 (f i)] w (Ret fun v w' => v = .tuple #[] ∧ Fr [q] w w' ∧ w'.heap[q]? = some (.cells (Bs (b12 sz f (i + 1))).toArray T (0, 0))) := by
  obtain ⟨h, rfl | rfl⟩ : ∃ h, i = 2 * h ∨ i = 2 * h + 1 := ⟨i / 2, by omega⟩
  · exact c_w12e w q sz h T f (by omega) hz (by omega) hv hq
  · exact c_w12o w q sz h T f (by omega) hz (by omega) hv hq

set_option maxRecDepth 100000 in
set_option maxHeartbeats 1000000 in
theorem c_r12e (w : World) (q sz h m cap : Nat) (T : TypeId) (fr : Nat × Nat) (f : Nat → Int) (Z : List UInt8) (hh : 1 ≤ h) (hz : sz ≤ 1000) (hcap : sz ≤ cap) (h1 : 3 * h + 1 < sz) (hm : 2 * h < m) (hv : 0 ≤ f (2 * h) ∧ f (2 * h) ≤ 4095) (hq : w.heap[q]? = some (.cells (Bs (b12 sz f m ++ Z)).toArray T fr)) : Calls Try.prog 45 #[.slice (some ⟨q, 0, none⟩) sz cap, .int .u32 ((2 * h : Nat) : Int)] w (Ret fun v w' => v = .int .u32 (f (2 * h)) ∧ Fr [] w w') := by
  refine enter (fun ρ => ρ 4) Try.func45 rfl rfl rfl (res1 rfl) ?_
  have H := SH.ro1 hq
  have hbl := b12_len sz f m
  have hle : (b12 sz f m ++ Z).length = sz + Z.length := by rw [List.length_append, hbl]
  have hA := ((b12 sz f m).getD (3 * h) 0).toNat_lt
  have hB := ((b12 sz f m).getD (3 * h + 1) 0).toNat_lt
  refine sq ?_
  refine rg ?_
  refine asg (v := .int .u32 _) rfl rfl ?_
  refine nl ?_
  refine then_n ?_
  refine sq ?_
  refine rg ?_
  refine mv (v := .int .u32 _) rfl rfl ?_
  refine mul rfl rfl (by first | exact w_u32 (by omega) | exact w_u32 (rng_u32 _) | exact m_u32 _) rfl ?_
  refine quo (c := ((3 * h : Nat) : Int)) rfl rfl (by omega) (by omega) (by rw [w_u32 (by omega)]; omega) rfl ?_
  refine asg (v := .int .u32 _) rfl rfl ?_
  refine nl ?_
  refine then_n ?_
  refine sq ?_
  refine sq ?_
  refine rg ?_
  refine mv (v := .int .u32 _) rfl rfl ?_
  refine add (c := ((3 * h + 1 : Nat) : Int)) rfl rfl (by rw [w_u32 (by omega)]; omega) rfl ?_
  refine mv (v := .slice _ _ _) rfl rfl ?_
  refine lnS rfl Try.underlying36 rfl ?_
  refine cvi rfl rfl Try.underlying24 (by first | exact w_u32 (by omega) | exact w_u32 (rng_u32 _) | exact m_u32 _) rfl ?_
  refine geq rfl rfl rfl ?_
  refine nl ?_
  refine then_n ?_
  first | refine cF rfl (by omega) ?_ | refine cbF rfl (by omega) ?_   -- test 1
  refine sk ?_
  refine then_n ?_
  refine sq ?_
  refine dr (by kernel_rfl) ?_   -- region 4
  have H := H.drew
  refine hold (fun _ => True) [] ?_
  refine tk (i := 0) rfl (by kernel_rfl) rfl trivial (fun _ _ => r_mv (v := .slice _ _ _) rfl) ?_
  refine tk (i := 1) rfl (by kernel_rfl) rfl trivial (fun _ _ => r_mv (v := .int .u32 _) rfl) ?_
  refine tk (i := 2) rfl (by kernel_rfl) rfl trivial (fun _ _ => r_iaN (3 * h) rfl rfl Try.underlying36 sz5_1 (by omega) (by omega)) ?_
  refine tk (i := 5) rfl (by kernel_rfl) rfl trivial (fun _ _ => r_mv (v := .slice _ _ _) rfl) ?_
  refine tk (i := 6) rfl (by kernel_rfl) rfl trivial (fun _ _ => r_mv (v := .int .u32 _) rfl) ?_
  refine tk (i := 7) rfl (by kernel_rfl) rfl trivial (fun _ _ => r_add (c := ((3 * h + 1 : Nat) : Int)) rfl rfl (by rw [w_u32 (by omega)]; omega)) ?_
  refine tk (i := 8) rfl (by kernel_rfl) rfl trivial (fun _ _ => r_iaN (3 * h + 1) rfl rfl Try.underlying36 sz5_1 (by omega) (by omega)) ?_
  refine unfree ?_
  refine holdH H [] ?_
  refine tk (i := 3) rfl (by kernel_rfl) rfl H (fun w' H => r_ld (v := .int .u8 (((b12 sz f m).getD (3 * h) 0).toNat : Int)) H rfl sc5 (by rw [Bs_get (by omega), getD_app (by omega)])) ?_
  refine tk (i := 4) rfl (by kernel_rfl) rfl H (fun w' H => r_cvi rfl rfl Try.underlying24 (by first | exact w_u32 (by omega) | exact w_u32 (rng_u32 _) | exact m_u32 _)) ?_
  refine tk (i := 9) rfl (by kernel_rfl) rfl H (fun w' H => r_ld (v := .int .u8 (((b12 sz f m).getD (3 * h + 1) 0).toNat : Int)) H rfl sc5 (by rw [Bs_get (by omega), getD_app (by omega)])) ?_
  refine tk (i := 10) rfl (by kernel_rfl) rfl H (fun w' H => r_cvi rfl rfl Try.underlying24 (by first | exact w_u32 (by omega) | exact w_u32 (rng_u32 _) | exact m_u32 _)) ?_
  refine tk (i := 11) rfl (by kernel_rfl) rfl H (fun w' H => r_shlK (s := 8) (p := 256) rfl rfl (by decide) (by decide) (by first | exact w_u32 (by omega) | exact w_u32 (rng_u32 _) | exact m_u32 _)) ?_
  refine tk (i := 12) rfl (by kernel_rfl) rfl H (fun w' H => r_bor (c := (((b12 sz f m).getD (3 * h) 0).toNat : Int) + 256 * (((b12 sz f m).getD (3 * h + 1) 0).toNat : Int)) rfl rfl (or_w (by omega) (by omega))) ?_
  refine tk (i := 13) rfl (by kernel_rfl) rfl H (fun w' H => r_asg (v := .int .u32 _) rfl) ?_
  refine da (by kernel_rfl) ?_
  refine then_n ?_
  refine sq ?_
  refine sq ?_
  refine rg ?_
  refine mv (v := .int .u32 _) rfl rfl ?_
  refine rem (c := 0) rfl rfl (by omega) (by omega) (by omega) rfl ?_
  refine eql rfl rfl rfl ?_
  refine nl ?_
  refine then_n ?_
  first | refine cT rfl rfl ?_ | refine cbT rfl rfl ?_   -- test 2
  refine sq ?_
  refine rg ?_
  refine mv (v := .int .u32 _) rfl rfl ?_
  refine band (c := f (2 * h)) rfl rfl (by rw [and_u32 (k := 12) (by decide) (by decide) (by omega)]; exact r12_even hh hm h1 hv) rfl ?_
  refine asg (v := .int .u32 _) rfl rfl ?_
  refine nl ?_
  refine then_n ?_
  refine rt ?_
  refine then_r ?_
  refine fin_r ?_
  exact ⟨rfl, H.fr⟩

set_option maxRecDepth 100000 in
set_option maxHeartbeats 1000000 in
theorem c_r12o (w : World) (q sz h m cap : Nat) (T : TypeId) (fr : Nat × Nat) (f : Nat → Int) (Z : List UInt8) (hh : 1 ≤ h) (hz : sz ≤ 1000) (hcap : sz ≤ cap) (h1 : 3 * h + 1 + 1 < sz) (hm : 2 * h + 1 < m) (hv : 0 ≤ f (2 * h + 1) ∧ f (2 * h + 1) ≤ 4095) (hq : w.heap[q]? = some (.cells (Bs (b12 sz f m ++ Z)).toArray T fr)) : Calls Try.prog 45 #[.slice (some ⟨q, 0, none⟩) sz cap, .int .u32 ((2 * h + 1 : Nat) : Int)] w (Ret fun v w' => v = .int .u32 (f (2 * h + 1)) ∧ Fr [] w w') := by
  refine enter (fun ρ => ρ 4) Try.func45 rfl rfl rfl (res1 rfl) ?_
  have H := SH.ro1 hq
  have hbl := b12_len sz f m
  have hle : (b12 sz f m ++ Z).length = sz + Z.length := by rw [List.length_append, hbl]
  have hA := ((b12 sz f m).getD (3 * h + 1) 0).toNat_lt
  have hB := ((b12 sz f m).getD (3 * h + 1 + 1) 0).toNat_lt
  refine sq ?_
  refine rg ?_
  refine asg (v := .int .u32 _) rfl rfl ?_
  refine nl ?_
  refine then_n ?_
  refine sq ?_
  refine rg ?_
  refine mv (v := .int .u32 _) rfl rfl ?_
  refine mul rfl rfl (by first | exact w_u32 (by omega) | exact w_u32 (rng_u32 _) | exact m_u32 _) rfl ?_
  refine quo (c := ((3 * h + 1 : Nat) : Int)) rfl rfl (by omega) (by omega) (by rw [w_u32 (by omega)]; omega) rfl ?_
  refine asg (v := .int .u32 _) rfl rfl ?_
  refine nl ?_
  refine then_n ?_
  refine sq ?_
  refine sq ?_
  refine rg ?_
  refine mv (v := .int .u32 _) rfl rfl ?_
  refine add (c := ((3 * h + 1 + 1 : Nat) : Int)) rfl rfl (by rw [w_u32 (by omega)]; omega) rfl ?_
  refine mv (v := .slice _ _ _) rfl rfl ?_
  refine lnS rfl Try.underlying36 rfl ?_
  refine cvi rfl rfl Try.underlying24 (by first | exact w_u32 (by omega) | exact w_u32 (rng_u32 _) | exact m_u32 _) rfl ?_
  refine geq rfl rfl rfl ?_
  refine nl ?_
  refine then_n ?_
  first | refine cF rfl (by omega) ?_ | refine cbF rfl (by omega) ?_   -- test 1
  refine sk ?_
  refine then_n ?_
  refine sq ?_
  refine dr (by kernel_rfl) ?_   -- region 4
  have H := H.drew
  refine hold (fun _ => True) [] ?_
  refine tk (i := 0) rfl (by kernel_rfl) rfl trivial (fun _ _ => r_mv (v := .slice _ _ _) rfl) ?_
  refine tk (i := 1) rfl (by kernel_rfl) rfl trivial (fun _ _ => r_mv (v := .int .u32 _) rfl) ?_
  refine tk (i := 2) rfl (by kernel_rfl) rfl trivial (fun _ _ => r_iaN (3 * h + 1) rfl rfl Try.underlying36 sz5_1 (by omega) (by omega)) ?_
  refine tk (i := 5) rfl (by kernel_rfl) rfl trivial (fun _ _ => r_mv (v := .slice _ _ _) rfl) ?_
  refine tk (i := 6) rfl (by kernel_rfl) rfl trivial (fun _ _ => r_mv (v := .int .u32 _) rfl) ?_
  refine tk (i := 7) rfl (by kernel_rfl) rfl trivial (fun _ _ => r_add (c := ((3 * h + 1 + 1 : Nat) : Int)) rfl rfl (by rw [w_u32 (by omega)]; omega)) ?_
  refine tk (i := 8) rfl (by kernel_rfl) rfl trivial (fun _ _ => r_iaN (3 * h + 1 + 1) rfl rfl Try.underlying36 sz5_1 (by omega) (by omega)) ?_
  refine unfree ?_
  refine holdH H [] ?_
  refine tk (i := 3) rfl (by kernel_rfl) rfl H (fun w' H => r_ld (v := .int .u8 (((b12 sz f m).getD (3 * h + 1) 0).toNat : Int)) H rfl sc5 (by rw [Bs_get (by omega), getD_app (by omega)])) ?_
  refine tk (i := 4) rfl (by kernel_rfl) rfl H (fun w' H => r_cvi rfl rfl Try.underlying24 (by first | exact w_u32 (by omega) | exact w_u32 (rng_u32 _) | exact m_u32 _)) ?_
  refine tk (i := 9) rfl (by kernel_rfl) rfl H (fun w' H => r_ld (v := .int .u8 (((b12 sz f m).getD (3 * h + 1 + 1) 0).toNat : Int)) H rfl sc5 (by rw [Bs_get (by omega), getD_app (by omega)])) ?_
  refine tk (i := 10) rfl (by kernel_rfl) rfl H (fun w' H => r_cvi rfl rfl Try.underlying24 (by first | exact w_u32 (by omega) | exact w_u32 (rng_u32 _) | exact m_u32 _)) ?_
  refine tk (i := 11) rfl (by kernel_rfl) rfl H (fun w' H => r_shlK (s := 8) (p := 256) rfl rfl (by decide) (by decide) (by first | exact w_u32 (by omega) | exact w_u32 (rng_u32 _) | exact m_u32 _)) ?_
  refine tk (i := 12) rfl (by kernel_rfl) rfl H (fun w' H => r_bor (c := (((b12 sz f m).getD (3 * h + 1) 0).toNat : Int) + 256 * (((b12 sz f m).getD (3 * h + 1 + 1) 0).toNat : Int)) rfl rfl (or_w (by omega) (by omega))) ?_
  refine tk (i := 13) rfl (by kernel_rfl) rfl H (fun w' H => r_asg (v := .int .u32 _) rfl) ?_
  refine da (by kernel_rfl) ?_
  refine then_n ?_
  refine sq ?_
  refine sq ?_
  refine rg ?_
  refine mv (v := .int .u32 _) rfl rfl ?_
  refine rem (c := 1) rfl rfl (by omega) (by omega) (by omega) rfl ?_
  refine eql rfl rfl rfl ?_
  refine nl ?_
  refine then_n ?_
  first | refine cF rfl (by decide) ?_ | refine cbF rfl (by decide) ?_   -- test 2
  refine sk ?_
  refine then_n ?_
  refine sq ?_
  refine rg ?_
  refine mv (v := .int .u32 _) rfl rfl ?_
  refine shrK (s := 4) (p := 16) rfl rfl (by decide) (by decide) (r12_odd hh hm h1 hv) rfl ?_
  refine asg (v := .int .u32 _) rfl rfl ?_
  refine nl ?_
  refine then_n ?_
  refine rt ?_
  refine fin_r ?_
  exact ⟨rfl, H.fr⟩

theorem c_r12 (w : World) (q sz i m cap : Nat) (T : TypeId) (fr : Nat × Nat) (f : Nat → Int) (Z : List UInt8) (hi : 2 ≤ i) (hz : sz ≤ 1000) (hcap : sz ≤ cap) (h1 : 3 * i / 2 + 1 < sz) (hm : i < m) (hv : 0 ≤ f i ∧ f i ≤ 4095) (hq : w.heap[q]? = some (.cells (Bs (b12 sz f m ++ Z)).toArray T fr)) : Calls Try.prog 45 #[.slice (some ⟨q, 0, none⟩) sz cap, .int .u32 (i : Int)] w (Ret fun v w' => v = .int .u32 (f i) ∧ Fr [] w w') := by
  obtain ⟨h, rfl | rfl⟩ : ∃ h, i = 2 * h ∨ i = 2 * h + 1 := ⟨i / 2, by omega⟩
  · exact c_r12e w q sz h m cap T fr f Z (by omega) hz hcap (by omega) hm hv hq
  · exact c_r12o w q sz h m cap T fr f Z (by omega) hz hcap (by omega) hm hv hq

end Go.Proofs.Ytgmkjndmjnbahaa.X
