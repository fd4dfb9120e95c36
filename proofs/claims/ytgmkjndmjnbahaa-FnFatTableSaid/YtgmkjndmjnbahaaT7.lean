/- Walks of functions, printed by a program of this claim. -/
import Derived.Test.YtgmkjndmjnbahaaT6
namespace Go.Proofs.Ytgmkjndmjnbahaa.X
set_option linter.unusedVariables false
set_option linter.unusedSimpArgs false
open Go Go.RowKit

namespace T7
theorem ca10 : callable Try.prog 10 = true := by kernel_rfl
theorem ca14 : callable Try.prog 14 = true := by kernel_rfl
theorem ca9 : callable Try.prog 9 = true := by kernel_rfl

end T7
open T7

set_option maxRecDepth 100000 in
set_option maxHeartbeats 1000000 in
theorem c_at (w : World) (bs : List UInt8) (i : Nat) (hi : i < bs.length) : Calls Try.prog 14 #[.string (str bs), .int .i64 (i : Int)] w (Ret fun v w' => v = .int .i64 ((bs.getD (i) 0).toNat : Int) ∧ Fr [] w w') := by
  refine enter (fun ρ => ρ 4) Try.func14 rfl rfl rfl (res1 rfl) ?_
  have H := SH.nil w
  have hsz := size_str bs
  refine sq ?_
  refine rg ?_
  refine asg (v := .int .i64 _) rfl rfl ?_
  refine nl ?_
  refine then_n ?_
  refine sq ?_
  refine sq ?_
  refine rg ?_
  refine mv (v := .int .i64 _) rfl rfl ?_
  refine lss rfl rfl rfl ?_
  refine mv (v := .bool _) rfl rfl ?_
  first | refine spL (t := 7) (b := false) rfl ?_ | refine spF (t := 7) rfl (by omega) ?_   -- guard 1
  refine gy rfl ?_
  refine mv (v := .int .i64 _) rfl rfl ?_
  refine gy rfl ?_
  refine mv (v := .string _) rfl rfl ?_
  refine gy rfl ?_
  refine lnT rfl Try.underlying9 rfl ?_
  refine gy rfl ?_
  refine geq rfl rfl rfl ?_
  refine pkF (v := .bool _) rfl rfl rfl ?_
  refine nl ?_
  refine then_n ?_
  first | refine cF rfl (by omega) ?_ | refine cbF rfl (by omega) ?_   -- test 1
  refine sk ?_
  refine then_n ?_
  refine sq ?_
  refine rg ?_
  refine mv (v := .string _) rfl rfl ?_
  refine mv (v := .int .i64 _) rfl rfl ?_
  refine ixS rfl rfl Try.underlying9 (by first | omega | (constructor <;> simp <;> omega)) rfl ?_; intro hu1
  refine cvi rfl rfl Try.underlying3 (by first | exact w_i64 (by omega) | exact w_i64 (rng_i64 _) | rfl) rfl ?_
  refine asg (v := .int .i64 _) rfl rfl ?_
  refine nl ?_
  refine then_n ?_
  refine rt ?_
  refine fin_r ?_
  exact ⟨rfl, H.fr⟩

set_option maxRecDepth 100000 in
set_option maxHeartbeats 1000000 in
theorem c_num16 (w : World) (bs : List UInt8) (i : Nat) (hi : i + 1 < bs.length) (hi2 : i ≤ 1000000) : Calls Try.prog 9 #[.string (str bs), .int .i64 (i : Int)] w (Ret fun v w' => v = .int .i64 (((bs.getD (i) 0).toNat : Int) + 256 * ((bs.getD (i + 1) 0).toNat : Int)) ∧ Fr [] w w') := by
  refine enter (fun ρ => ρ 4) Try.func9 rfl rfl rfl (res1 rfl) ?_
  have H := SH.nil w
  have hA := (bs.getD i 0).toNat_lt
  have hB := (bs.getD (i + 1) 0).toNat_lt
  refine sq ?_
  refine rg ?_
  refine asg (v := .int .i64 _) rfl rfl ?_
  refine nl ?_
  refine then_n ?_
  refine sq ?_
  refine rg ?_
  refine mv (v := .string _) rfl rfl ?_
  refine mv (v := .int .i64 _) rfl rfl ?_
  refine cl ca14 (c_at _ bs i (by omega)) rfl ?_
  rintro _ w1 ⟨rfl, F⟩
  replace H := H.keep F; clear F
  refine mv (v := .string _) rfl rfl ?_
  refine mv (v := .int .i64 _) rfl rfl ?_
  refine add (c := ((i + 1 : Nat) : Int)) rfl rfl (by rw [w_i64 (by omega)]; omega) rfl ?_
  refine cl ca14 (c_at _ bs (i + 1) hi) rfl ?_
  rintro _ w2 ⟨rfl, F⟩
  replace H := H.keep F; clear F
  refine shlK (s := 8) (p := 256) rfl rfl (by decide) (by decide) (by first | exact w_i64 (by omega) | exact w_i64 (rng_i64 _) | rfl) rfl ?_
  refine bor (c := ((bs.getD (i) 0).toNat : Int) + 256 * ((bs.getD (i + 1) 0).toNat : Int)) rfl rfl (or_wi (by omega) (by omega)) rfl ?_
  refine asg (v := .int .i64 _) rfl rfl ?_
  refine nl ?_
  refine then_n ?_
  refine rt ?_
  refine fin_r ?_
  exact ⟨rfl, H.fr⟩

set_option maxRecDepth 100000 in
set_option maxHeartbeats 1000000 in
theorem c_num32 (w : World) (bs : List UInt8) (i : Nat) (hi : i + 3 < bs.length) (hi2 : i ≤ 100000) : Calls Try.prog 10 #[.string (str bs), .int .i64 (i : Int)] w (Ret fun v w' => v = .int .i64 ((((bs.getD (i) 0).toNat : Int) + 256 * ((bs.getD (i + 1) 0).toNat : Int)) + 65536 * (((bs.getD (i + 2) 0).toNat : Int) + 256 * ((bs.getD (i + 2 + 1) 0).toNat : Int))) ∧ Fr [] w w') := by
  refine enter (fun ρ => ρ 4) Try.func10 rfl rfl rfl (res1 rfl) ?_
  have H := SH.nil w
  have h0 := (bs.getD (i) 0).toNat_lt
  have h1 := (bs.getD (i + 1) 0).toNat_lt
  have h2 := (bs.getD (i + 2) 0).toNat_lt
  have h3 := (bs.getD (i + 2 + 1) 0).toNat_lt
  refine sq ?_
  refine rg ?_
  refine asg (v := .int .i64 _) rfl rfl ?_
  refine nl ?_
  refine then_n ?_
  refine sq ?_
  refine rg ?_
  refine mv (v := .string _) rfl rfl ?_
  refine mv (v := .int .i64 _) rfl rfl ?_
  refine cl ca9 (c_num16 _ bs i (by omega) (by omega)) rfl ?_
  rintro _ w1 ⟨rfl, F⟩
  replace H := H.keep F; clear F
  refine mv (v := .string _) rfl rfl ?_
  refine mv (v := .int .i64 _) rfl rfl ?_
  refine add (c := ((i + 2 : Nat) : Int)) rfl rfl (by rw [w_i64 (by omega)]; omega) rfl ?_
  refine cl ca9 (c_num16 _ bs (i + 2) (by omega) (by omega)) rfl ?_
  rintro _ w2 ⟨rfl, F⟩
  replace H := H.keep F; clear F
  refine shlK (s := 16) (p := 65536) rfl rfl (by decide) (by decide) (by first | exact w_i64 (by omega) | exact w_i64 (rng_i64 _) | rfl) rfl ?_
  refine bor (c := (((bs.getD (i) 0).toNat : Int) + 256 * ((bs.getD (i + 1) 0).toNat : Int)) + 65536 * (((bs.getD (i + 2) 0).toNat : Int) + 256 * ((bs.getD (i + 2 + 1) 0).toNat : Int))) rfl rfl (or_wd (by omega) (by omega)) rfl ?_
  refine asg (v := .int .i64 _) rfl rfl ?_
  refine nl ?_
  refine then_n ?_
  refine rt ?_
  refine fin_r ?_
  exact ⟨rfl, H.fr⟩

set_option maxRecDepth 100000 in
set_option maxHeartbeats 1000000 in
theorem c_fe12e (w : World) (sz h m : Nat) (f : Nat → Int) (hh : 1 ≤ h) (hz : sz ≤ 1000) (h1 : 3 * h + 1 < sz) (hm : 2 * h < m) (hv : 0 ≤ f (2 * h) ∧ f (2 * h) ≤ 4095) : Calls Try.prog 7 #[.int .i64 12, .string (str (b12 sz f m)), .int .i64 ((2 * h : Nat) : Int)] w (Ret fun v w' => v = .int .i64 (f (2 * h)) ∧ Fr [] w w') := by
  refine enter (fun ρ => ρ 6) Try.func7 rfl rfl rfl (res1 rfl) ?_
  have H := SH.nil w
  have hbl := b12_len sz f m
  have hA := ((b12 sz f m).getD (3 * h) 0).toNat_lt
  have hB := ((b12 sz f m).getD (3 * h + 1) 0).toNat_lt
  refine sq ?_
  refine rg ?_
  refine asg (v := .int .i64 _) rfl rfl ?_
  refine nl ?_
  refine then_n ?_
  refine sq ?_
  refine sq ?_
  refine rg ?_
  refine mv (v := .int .i64 _) rfl rfl ?_
  refine nl ?_
  refine then_n ?_
  refine bk ?_
  refine sq ?_
  refine rg ?_
  refine eql rfl rfl rfl ?_
  refine asg (v := .bool _) rfl rfl ?_
  refine nl ?_
  refine then_n ?_
  first | refine cT rfl rfl ?_ | refine cbT rfl rfl ?_   -- test 1
  refine sq ?_
  refine rg ?_
  refine mv (v := .string _) rfl rfl ?_
  refine mv (v := .int .i64 _) rfl rfl ?_
  refine mul rfl rfl (by first | exact w_i64 (by omega) | exact w_i64 (rng_i64 _) | rfl) rfl ?_
  refine quo (c := ((3 * h : Nat) : Int)) rfl rfl (by omega) (by omega) (by rw [w_i64 (by omega)]; omega) rfl ?_
  refine cl ca9 (c_num16 _ (b12 sz f m) (3 * h) (by omega) (by omega)) rfl ?_
  rintro _ w1 ⟨rfl, F⟩
  replace H := H.keep F; clear F
  refine asg (v := .int .i64 _) rfl rfl ?_
  refine nl ?_
  refine then_n ?_
  refine sq ?_
  refine sq ?_
  refine rg ?_
  refine mv (v := .int .i64 _) rfl rfl ?_
  refine rem (c := 0) rfl rfl (by omega) (by omega) (by omega) rfl ?_
  refine eql rfl rfl rfl ?_
  refine nl ?_
  refine then_n ?_
  first | refine cF rfl (by decide) ?_ | refine cbF rfl (by decide) ?_   -- test 2
  refine sk ?_
  refine then_n ?_
  refine sq ?_
  refine rg ?_
  refine mv (v := .int .i64 _) rfl rfl ?_
  refine band (c := f (2 * h)) rfl rfl (by rw [and_i64 (k := 12) (by decide) (by decide) (by omega)]; exact r12_even hh hm h1 hv) rfl ?_
  refine asg (v := .int .i64 _) rfl rfl ?_
  refine nl ?_
  refine then_n ?_
  refine rt ?_
  refine in_r ?_
  refine then_r ?_
  refine fin_r ?_
  exact ⟨rfl, H.fr⟩

set_option maxRecDepth 100000 in
set_option maxHeartbeats 1000000 in
theorem c_fe12o (w : World) (sz h m : Nat) (f : Nat → Int) (hh : 1 ≤ h) (hz : sz ≤ 1000) (h1 : 3 * h + 1 + 1 < sz) (hm : 2 * h + 1 < m) (hv : 0 ≤ f (2 * h + 1) ∧ f (2 * h + 1) ≤ 4095) : Calls Try.prog 7 #[.int .i64 12, .string (str (b12 sz f m)), .int .i64 ((2 * h + 1 : Nat) : Int)] w (Ret fun v w' => v = .int .i64 (f (2 * h + 1)) ∧ Fr [] w w') := by
  refine enter (fun ρ => ρ 6) Try.func7 rfl rfl rfl (res1 rfl) ?_
  have H := SH.nil w
  have hbl := b12_len sz f m
  have hA := ((b12 sz f m).getD (3 * h + 1) 0).toNat_lt
  have hB := ((b12 sz f m).getD (3 * h + 1 + 1) 0).toNat_lt
  refine sq ?_
  refine rg ?_
  refine asg (v := .int .i64 _) rfl rfl ?_
  refine nl ?_
  refine then_n ?_
  refine sq ?_
  refine sq ?_
  refine rg ?_
  refine mv (v := .int .i64 _) rfl rfl ?_
  refine nl ?_
  refine then_n ?_
  refine bk ?_
  refine sq ?_
  refine rg ?_
  refine eql rfl rfl rfl ?_
  refine asg (v := .bool _) rfl rfl ?_
  refine nl ?_
  refine then_n ?_
  first | refine cT rfl rfl ?_ | refine cbT rfl rfl ?_   -- test 1
  refine sq ?_
  refine rg ?_
  refine mv (v := .string _) rfl rfl ?_
  refine mv (v := .int .i64 _) rfl rfl ?_
  refine mul rfl rfl (by first | exact w_i64 (by omega) | exact w_i64 (rng_i64 _) | rfl) rfl ?_
  refine quo (c := ((3 * h + 1 : Nat) : Int)) rfl rfl (by omega) (by omega) (by rw [w_i64 (by omega)]; omega) rfl ?_
  refine cl ca9 (c_num16 _ (b12 sz f m) (3 * h + 1) (by omega) (by omega)) rfl ?_
  rintro _ w1 ⟨rfl, F⟩
  replace H := H.keep F; clear F
  refine asg (v := .int .i64 _) rfl rfl ?_
  refine nl ?_
  refine then_n ?_
  refine sq ?_
  refine sq ?_
  refine rg ?_
  refine mv (v := .int .i64 _) rfl rfl ?_
  refine rem (c := 1) rfl rfl (by omega) (by omega) (by omega) rfl ?_
  refine eql rfl rfl rfl ?_
  refine nl ?_
  refine then_n ?_
  first | refine cT rfl rfl ?_ | refine cbT rfl rfl ?_   -- test 2
  refine sq ?_
  refine rg ?_
  refine mv (v := .int .i64 _) rfl rfl ?_
  refine shrK (s := 4) (p := 16) rfl rfl (by decide) (by decide) (r12_odd hh hm h1 hv) rfl ?_
  refine asg (v := .int .i64 _) rfl rfl ?_
  refine nl ?_
  refine then_n ?_
  refine rt ?_
  refine then_r ?_
  refine in_r ?_
  refine then_r ?_
  refine fin_r ?_
  exact ⟨rfl, H.fr⟩

theorem c_fe12 (w : World) (n i : Nat) (f : Nat → Int) (hn : 2 ≤ n ∧ n ≤ 300) (hv : ∀ i, 2 ≤ i → i < n → 0 ≤ f i ∧ f i ≤ 4095) (hi : 2 ≤ i ∧ i < n) : Calls Try.prog 7 #[.int .i64 12, .string (str (b12 ((n * 3 + 1) / 2) f (n + 1))), .int .i64 (i : Int)] w (Ret fun v w' => v = .int .i64 (f i) ∧ Fr [] w w') := by
  have hv := hv i hi.1 hi.2
  obtain ⟨h, rfl | rfl⟩ : ∃ h, i = 2 * h ∨ i = 2 * h + 1 := ⟨i / 2, by omega⟩
  · exact c_fe12e w _ h _ f (by omega) (by omega) (by omega) (by omega) hv
  · exact c_fe12o w _ h _ f (by omega) (by omega) (by omega) (by omega) hv

set_option maxRecDepth 100000 in
set_option maxHeartbeats 1000000 in
theorem c_fe16 (w : World) (n i : Nat) (f : Nat → Int) (hn : 2 ≤ n ∧ n ≤ 300) (hv : ∀ i, 2 ≤ i → i < n → 0 ≤ f i ∧ f i ≤ 65535) (hi : 2 ≤ i ∧ i < n) : Calls Try.prog 7 #[.int .i64 16, .string (str (wB 2 n (fI 65528 65535 f n))), .int .i64 (i : Int)] w (Ret fun v w' => v = .int .i64 (f i) ∧ Fr [] w w') := by
  refine enter (fun ρ => ρ 6) Try.func7 rfl rfl rfl (res1 rfl) ?_
  have H := SH.nil w
  have hbl := wB_len 2 (fI 65528 65535 f n) n
  have hvi := hv i hi.1 hi.2
  have hf := fI_at (h0 := 65528) (h1 := 65535) (f := f) hi.1 hi.2
  have hw := word16 (N := n) (j := i) (f := fI 65528 65535 f n) hi.2 (by rw [hf]; omega)
  refine sq ?_
  refine rg ?_
  refine asg (v := .int .i64 _) rfl rfl ?_
  refine nl ?_
  refine then_n ?_
  refine sq ?_
  refine sq ?_
  refine rg ?_
  refine mv (v := .int .i64 _) rfl rfl ?_
  refine nl ?_
  refine then_n ?_
  refine bk ?_
  refine sq ?_
  refine rg ?_
  refine eql rfl rfl rfl ?_
  refine asg (v := .bool _) rfl rfl ?_
  refine nl ?_
  refine then_n ?_
  first | refine cF rfl (by decide) ?_ | refine cbF rfl (by decide) ?_   -- test 1
  refine sq ?_
  refine rg ?_
  refine eql rfl rfl rfl ?_
  refine asg (v := .bool _) rfl rfl ?_
  refine nl ?_
  refine then_n ?_
  first | refine cT rfl rfl ?_ | refine cbT rfl rfl ?_   -- test 2
  refine sq ?_
  refine rg ?_
  refine mv (v := .string _) rfl rfl ?_
  refine mv (v := .int .i64 _) rfl rfl ?_
  refine mul (c := ((2 * i : Nat) : Int)) rfl rfl (by rw [w_i64 (by omega)]; omega) rfl ?_
  refine cl ca9 (c_num16 _ (wB 2 n (fI 65528 65535 f n)) (2 * i) (by omega) (by omega)) rfl ?_
  rintro _ w1 ⟨rfl, F⟩
  replace H := H.keep F; clear F
  rw [hw, hf]
  refine asg (v := .int .i64 _) rfl rfl ?_
  refine nl ?_
  refine then_n ?_
  refine rt ?_
  refine in_r ?_
  refine then_r ?_
  refine fin_r ?_
  exact ⟨rfl, H.fr⟩

set_option maxRecDepth 100000 in
set_option maxHeartbeats 1000000 in
theorem c_fe32 (w : World) (n i : Nat) (f : Nat → Int) (hn : 2 ≤ n ∧ n ≤ 300) (hv : ∀ i, 2 ≤ i → i < n → 0 ≤ f i ∧ f i ≤ 268435455) (hi : 2 ≤ i ∧ i < n) : Calls Try.prog 7 #[.int .i64 32, .string (str (wB 4 n (fI 268435448 268435455 f n))), .int .i64 (i : Int)] w (Ret fun v w' => v = .int .i64 (f i) ∧ Fr [] w w') := by
  refine enter (fun ρ => ρ 6) Try.func7 rfl rfl rfl (res1 rfl) ?_
  have H := SH.nil w
  have hbl := wB_len 4 (fI 268435448 268435455 f n) n
  have hvi := hv i hi.1 hi.2
  have hf := fI_at (h0 := 268435448) (h1 := 268435455) (f := f) hi.1 hi.2
  have hw := word32 (N := n) (j := i) (f := fI 268435448 268435455 f n) hi.2 (by rw [hf]; omega)
  refine sq ?_
  refine rg ?_
  refine asg (v := .int .i64 _) rfl rfl ?_
  refine nl ?_
  refine then_n ?_
  refine sq ?_
  refine sq ?_
  refine rg ?_
  refine mv (v := .int .i64 _) rfl rfl ?_
  refine nl ?_
  refine then_n ?_
  refine bk ?_
  refine sq ?_
  refine rg ?_
  refine eql rfl rfl rfl ?_
  refine asg (v := .bool _) rfl rfl ?_
  refine nl ?_
  refine then_n ?_
  first | refine cF rfl (by decide) ?_ | refine cbF rfl (by decide) ?_   -- test 1
  refine sq ?_
  refine rg ?_
  refine eql rfl rfl rfl ?_
  refine asg (v := .bool _) rfl rfl ?_
  refine nl ?_
  refine then_n ?_
  first | refine cF rfl (by decide) ?_ | refine cbF rfl (by decide) ?_   -- test 2
  refine sk ?_
  refine in_n ?_
  refine then_n ?_
  refine sq ?_
  refine rg ?_
  refine mv (v := .string _) rfl rfl ?_
  refine mv (v := .int .i64 _) rfl rfl ?_
  refine mul (c := ((4 * i : Nat) : Int)) rfl rfl (by rw [w_i64 (by omega)]; omega) rfl ?_
  refine cl ca10 (c_num32 _ (wB 4 n (fI 268435448 268435455 f n)) (4 * i) (by omega) (by omega)) rfl ?_
  rintro _ w1 ⟨rfl, F⟩
  replace H := H.keep F; clear F
  rw [hw, hf]
  refine band (c := f i) rfl rfl (by rw [and_i64 (k := 28) (by decide) (by decide) (by omega)]; omega) rfl ?_
  refine asg (v := .int .i64 _) rfl rfl ?_
  refine nl ?_
  refine then_n ?_
  refine rt ?_
  refine fin_r ?_
  exact ⟨rfl, H.fr⟩

end Go.Proofs.Ytgmkjndmjnbahaa.X
