/- Walks of functions, printed by a program of this claim. -/
import Derived.Test.YtgmkjndmjnbahaaT10
namespace Go.Proofs.Ytgmkjndmjnbahaa.X
set_option linter.unusedVariables false
set_option linter.unusedSimpArgs false
open Go Go.RowKit

namespace T11
theorem ca4 : callable Try.prog 4 = true := by kernel_rfl
theorem ca5 : callable Try.prog 5 = true := by kernel_rfl
theorem ca6 : callable Try.prog 6 = true := by kernel_rfl
theorem ca7 : callable Try.prog 7 = true := by kernel_rfl
theorem ri24 : rowInfo Try.prog 24 = some ([.int .u32 0], 4) := by kernel_rfl
theorem sc24 : scalarB Try.prog 24 = true := by kernel_rfl
theorem sz24_1 : sizeB Try.prog 24 1 = true := by kernel_rfl
theorem ze24 : zeroL Try.prog 24 = some [.int .u32 0] := by kernel_rfl

end T11
open T11

set_option maxRecDepth 100000 in
set_option maxHeartbeats 4000000 in
theorem c_FnFatTable12 (w : World) (x : Int) (A0 : Option Addr) (m0 c0 : Nat) (zs : List Int) (h0 : 0 ≤ x ∧ x ≤ 255) (hx : x % 3 = 0) (hlc : m0 ≤ c0) (hcm : c0 ≤ 9223372036854775807) (hrow : ∀ i, i < m0 → ∃ ad, A0 = some ad ∧ w.cell? (ad.add i) = some (.int .u32 (zs.getD i 0))) : Calls Try.prog 3 #[.int .u8 x, .slice A0 m0 c0] w (Ret fun v w' => v = .bool true ∧ Fr [] w w') := by
  refine enter (fun ρ => ρ 4) Try.func3 rfl rfl rfl (res1 rfl) ?_
  have H := SH.nil w
  obtain ⟨M, hM⟩ : ∃ M, M = min m0 200 := ⟨_, rfl⟩
  have hv : ∀ i, 2 ≤ i → i < M + 2 → 0 ≤ (vF zs 4095) i ∧ (vF zs 4095) i ≤ 4095 := fun i h1 _ => vF_rng zs (k := 12) (by decide) h1
  refine sq ?_
  refine rg ?_
  refine asg (v := .bool _) rfl rfl ?_
  refine nl ?_
  refine then_n ?_
  refine sq ?_
  refine sq ?_
  refine rg ?_
  refine mv (v := .slice _ _ _) rfl rfl ?_
  refine lnS rfl Try.underlying22 rfl ?_
  refine gtr rfl rfl rfl ?_
  refine nl ?_
  refine then_n ?_
  first | refine cd rfl (fun hc1 => ?_) (fun hc1 => ?_) | refine cn rfl (fun hc1 => ?_) (fun hc1 => ?_)   -- test 1
  · refine sq ?_
    refine rg ?_
    refine asg (v := .bool _) rfl rfl ?_
    refine nl ?_
    refine then_n ?_
    refine rt ?_
    refine then_r ?_
    refine fin_r ?_
    exact ⟨rfl, H.fr⟩
  · refine sk ?_
    refine then_n ?_
    refine sq ?_
    refine rg ?_
    refine mv (v := .int .u8 _) rfl rfl ?_
    refine cl ca4 (c_fatBits12 _ x h0 hx) rfl ?_
    rintro _ w1 ⟨rfl, F⟩
    replace H := H.keep F; clear F
    refine asg (v := .int .i64 _) rfl rfl ?_
    refine nl ?_
    refine then_n ?_
    refine sq ?_
    refine rg ?_
    refine mv (v := .slice _ _ _) rfl rfl ?_
    refine mv (v := .slice _ _ _) rfl rfl ?_
    refine lnS rfl Try.underlying22 rfl ?_
    refine min2 rfl rfl rfl ?_
    refine slhN (M) rfl rfl Try.underlying22 sz24_1 (by omega) (by omega) rfl ?_
    refine asg (v := .slice _ _ _) rfl rfl ?_
    refine nl ?_
    refine then_n ?_
    refine sq ?_
    refine rg ?_
    refine mkm H rfl ?_
    clear H; intro b1 w2 hb1 H F
    refine ins (v := .int .u32 _) H rfl rfl rfl Try.underlying25 Try.underlying3 (by rfl) ?_
    clear H; intro w3 H _
    refine ins (v := .int .u32 _) H rfl rfl rfl Try.underlying25 Try.underlying3 (by rfl) ?_
    clear H; intro w4 H _
    refine ins (v := .int .u32 _) H rfl rfl rfl Try.underlying25 Try.underlying3 (by rfl) ?_
    clear H; intro w5 H _
    refine mv (v := .map _) rfl rfl ?_
    refine mv (v := .int .i64 _) rfl rfl ?_
    refine lkp (v := .int .u32 _) H rfl rfl Try.underlying25 Try.underlying3 ⟨_, rfl⟩ rfl ?_
    refine asg (v := .int .u32 _) rfl rfl ?_
    refine nl ?_
    refine then_n ?_
    refine sq ?_
    refine rg ?_
    refine bsl (sz := 1) (out := ?o1) H Try.underlying22 ze24 sz24_1 (by decide) ?f1 rfl ?_
    case f1 =>
      refine FS.one (v := .int .u32 _) rfl rfl rfl (by first | decide | simp) ?_
      refine FS.one (v := .int .u32 _) rfl rfl rfl (by first | decide | simp) ?_
      exact FS.nil
    clear H; intro b2 w6 hb2 H F
    have O := (OR.made (sz := 1) (n := 2) (cap := 2) H (by decide) (by decide) rfl).sub (List.nil_sublist _)
    replace O : OR 24 1 w [] _ [] _ 2 2 (clR .u32 2 (vF zs 4095)) := O
    replace H := O.sh
    refine asg (v := .slice _ _ _) rfl rfl ?_
    refine nl ?_
    refine then_n ?_
    refine sq ?_
    refine sq ?_
    refine rg ?_
    refine mv (v := .slice _ _ _) rfl rfl ?_
    refine lnS rfl Try.underlying22 rfl ?_
    refine mv (v := .int .i64 _) rfl rfl ?_
    refine nl ?_
    refine then_n ?_
    refine bk ?_
    refine lpM (α := Nat × Option Addr × Nat) [7, 9, 31, 32, 33, 34, 35, 36, 37, 38, 39, 40, 41] (fun (i, D, cp) => [(7, .slice D (i + 2) cp), (31, .int .i64 (i : Int))]) (fun (i, D, cp) w' => i ≤ M ∧ OR 24 1 w [] w' [] D (i + 2) cp (clR .u32 (i + 2) (vF zs 4095))) (fun (i, D, cp) => M - i) (0, some ⟨b2, 0, none⟩, 2) ?_ (fC (by first | rfl | exact congrArg (Value.int _) (by first | omega | assumption | (symm; assumption) | (simp; done) | (simp; omega)) | exact congrArg (fun n => Value.slice _ n _) (by first | omega | (simp; done) | (simp; omega))) (fC (by first | rfl | exact congrArg (Value.int _) (by first | omega | assumption | (symm; assumption) | (simp; done) | (simp; omega)) | exact congrArg (fun n => Value.slice _ n _) (by first | omega | (simp; done) | (simp; omega))) (fN _))) ?_   -- loop 1
    · exact ⟨by omega, O⟩
    · rintro ⟨i, D, cp⟩ ρx w7 ⟨hi, O⟩
      have H := O.sh
      refine sq ?_
      refine rg ?_
      refine lss rfl rfl rfl ?_
      refine nl ?_
      refine then_n ?_
      refine sq ?_
      first | refine cd rfl (fun hc2 => ?_) (fun hc2 => ?_) | refine cn rfl (fun hc2 => ?_) (fun hc2 => ?_)   -- test 2
      · obtain ⟨ad, rfl, hcell⟩ := hrow i (by omega)
        refine sk ?_
        refine then_n ?_
        refine sq ?_
        refine bk ?_
        refine sq ?_
        refine rg ?_
        refine iBN (ad.add i) rfl rfl Try.underlying22 sz24_1 (by omega) (by simp) rfl ?_
        refine lc (v := .int .u32 (zs.getD i 0)) rfl (H.fr.cell hcell (by simp)) sc24 rfl ?_
        refine asg (v := .int .u32 _) rfl rfl ?_
        refine nl ?_
        refine then_n ?_
        refine rg ?_
        refine mv (v := .slice _ _ _) rfl rfl ?_
        refine mv (v := .int .u32 _) rfl rfl ?_
        refine mv (v := .int .u32 _) rfl rfl ?_
        refine band rfl rfl rfl rfl ?_
        refine bsl (sz := 1) (out := ?o2) H Try.underlying22 ze24 sz24_1 (by decide) ?f2 rfl ?_
        case f2 =>
          refine FS.one (v := .int .u32 _) rfl rfl rfl (by first | decide | simp) ?_
          exact FS.nil
        intro b3 w8 hb3 H1 F; replace O := O.new F hb3 H1.look; clear H H1 F; have H := O.sh
        refine apO (zs := [.int .u32 0]) [.int .u32 (bits .and .u32 (zs.getD i 0) 4095)] O rfl rfl Try.underlying22 ri24 (by first | rfl | simp) (cells_look H.look) (by simp [Value.oneCell']) (by simp) (by omega) (by unfold maxLen; omega) rfl ?_
        clear O H; intro D9 cp9 w9 O
        replace O := O.drop; have H := O.sh
        refine asg (v := .slice _ _ _) rfl rfl ?_
        refine nl ?_
        refine in_n ?_
        refine then_n ?_
        refine rg ?_
        refine add rfl rfl (by first | exact w_i64 (by omega) | exact w_i64 (rng_i64 _) | rfl) rfl ?_
        refine mv (v := .int .i64 _) rfl rfl ?_
        refine nl ?_
        refine loop_n ?_
        exact ⟨(i + 1, D9, cp9), (by (try dsimp only); omega), ⟨by omega, by rw [show i + 1 + 2 = i + 2 + 1 by omega, clR_snoc, vF_next]; exact O⟩, (fC (by first | rfl | exact congrArg (Value.int _) (by first | omega | assumption | (symm; assumption) | (simp; done) | (simp; omega)) | exact congrArg (fun n => Value.slice _ n _) (by first | omega | (simp; done) | (simp; omega))) (fC (by first | rfl | exact congrArg (Value.int _) (by first | omega | assumption | (symm; assumption) | (simp; done) | (simp; omega)) | exact congrArg (fun n => Value.slice _ n _) (by first | omega | (simp; done) | (simp; omega))) (fN _))), (by repeat (first | exact Agree.setL rfl Agree.mask | exact Agree.self _ _ | refine Agree.upd rfl ?_ | refine Agree.setL rfl ?_ | refine Agree.mask2 rfl ?_))⟩
      · obtain rfl : i = M := by omega
        refine ex ?_
        refine then_e ?_
        refine loop_e ?_
        refine in_hit rfl ?_
        refine then_n ?_
        refine sq ?_
        refine rg ?_
        obtain ⟨ad9, rfl⟩ := O.some_of (by omega)
        refine mv (v := .int .i64 _) rfl rfl ?_
        refine mv (v := .slice _ _ _) rfl rfl ?_
        refine cl ca5 (c_FatTable12 _ (i + 2) cp (vF zs 4095) ad9 (by omega) hv (fun j h1 h2 => by obtain ⟨ad8, e, h⟩ := O.cells j _ (clR_get h2); cases e; exact h)) rfl ?_
        rintro _ w10 ⟨rfl, F⟩
        replace H := H.keep F; replace O := O.keep F; clear F
        refine asg (v := .string _) rfl rfl ?_
        refine nl ?_
        refine then_n ?_
        refine sq ?_
        refine rg ?_
        refine mv (v := .int .i64 _) rfl rfl ?_
        refine mv (v := .string _) rfl rfl ?_
        refine mv (v := .slice _ _ _) rfl rfl ?_
        refine lnS rfl Try.underlying22 rfl ?_
        refine cl ca6 (c_FatValues12 _ (i + 2) (vF zs 4095) (by omega) hv) rfl ?_
        rintro _ w11 ⟨D8, cp8, rfl, hgot, F9⟩
        replace H := H.keep F9; replace O := O.keep F9; clear F9
        refine asg (v := .slice _ _ _) rfl rfl ?_
        refine nl ?_
        refine then_n ?_
        refine sq ?_
        refine sq ?_
        refine rg ?_
        refine mv (v := .slice _ _ _) rfl rfl ?_
        refine lnS rfl Try.underlying22 rfl ?_
        refine mv (v := .slice _ _ _) rfl rfl ?_
        refine lnS rfl Try.underlying22 rfl ?_
        refine neq rfl rfl rfl ?_
        refine nl ?_
        refine then_n ?_
        first | refine cF rfl (by omega) ?_ | refine cbF rfl (by omega) ?_   -- test 3
        refine sk ?_
        refine then_n ?_
        refine sq ?_
        refine sq ?_
        refine rg ?_
        refine mv (v := .slice _ _ _) rfl rfl ?_
        refine lnS rfl Try.underlying22 rfl ?_
        refine mv (v := .int .i64 _) rfl rfl ?_
        refine nl ?_
        refine then_n ?_
        refine bk ?_
        have F0 := H.fr
        have hvals : ∀ j, j < i + 2 → w11.cell? (ad9.add j) = some (.int .u32 ((vF zs 4095) j)) := fun j h => by
          obtain ⟨_, e, hc⟩ := O.cells j _ (clR_get h)
          cases e; exact hc
        clear H O
        refine lpM (α := Nat) [4, 12, 13, 57, 58, 59, 60, 61, 62, 63, 64, 65, 66, 67, 68, 69, 70, 71, 72, 73, 74, 75, 76, 77, 78, 79, 80, 81] (fun k => [(57, .int .i64 (k : Int))]) (fun k w' => k ≤ i + 2 ∧ SH w11 [] w' []) (fun k => i + 2 - k) 0 ?_ (fC (by first | rfl | exact congrArg (Value.int _) (by first | omega | assumption | (symm; assumption) | (simp; done) | (simp; omega)) | exact congrArg (fun n => Value.slice _ n _) (by first | omega | (simp; done) | (simp; omega))) (fN _)) ?_   -- loop 2
        · exact ⟨by omega, SH.nil _⟩
        · rintro k ρx w12 ⟨hk, H⟩
          refine sq ?_
          refine rg ?_
          refine lss rfl rfl rfl ?_
          refine nl ?_
          refine then_n ?_
          refine sq ?_
          first | refine cd rfl (fun hc4 => ?_) (fun hc4 => ?_) | refine cn rfl (fun hc4 => ?_) (fun hc4 => ?_)   -- test 4
          · have hcv := H.fr.cell (hvals k (by omega)) (by simp)
            refine sk ?_
            refine then_n ?_
            refine sq ?_
            refine bk ?_
            refine sq ?_
            refine rg ?_
            refine mv (v := .int .i64 _) rfl rfl ?_
            refine iBN (ad9.add k) rfl rfl Try.underlying22 sz24_1 (by omega) (by simp) rfl ?_
            refine lc (v := .int .u32 ((vF zs 4095) k)) rfl hcv sc24 rfl ?_
            refine asg (v := .int .i64 _) rfl rfl ?_
            refine asg (v := .int .u32 _) rfl rfl ?_
            refine nl ?_
            refine then_n ?_
            refine sq ?_
            refine rg ?_
            refine mv (v := .int .i64 _) rfl rfl ?_
            refine gtr rfl rfl rfl ?_
            refine mv (v := .bool _) rfl rfl ?_
            first | refine spd (t := 64) rfl (fun hg1 => ?_) (fun hg1 => ?_) | refine sp (t := 64) rfl (fun hg1 => ?_) (fun hg1 => ?_)   -- guard 1
            · obtain ⟨ad8, rfl, hc8⟩ := hgot k (by omega)
              have hgk : gI (vF zs 4095) (i + 2) k = (vF zs 4095) k := gI_at ⟨by omega, by omega⟩
              have hvk := hv k (by omega) (by omega)
              refine gy rfl ?_
              refine mv (v := .int .i64 _) rfl rfl ?_
              refine gy rfl ?_
              refine mv (v := .string _) rfl rfl ?_
              refine gy rfl ?_
              refine mv (v := .int .i64 _) rfl rfl ?_
              refine gy rfl ?_
              refine cl ca7 (c_fe12 _ (i + 2) k (gI (vF zs 4095) (i + 2)) (by omega) (gI_rng hv) ⟨by omega, by omega⟩) rfl ?_
              rintro _ w13 ⟨rfl, F⟩
              replace H := H.keep F; clear F
              rw [hgk]
              refine gy rfl ?_
              refine mv (v := .int .u32 _) rfl rfl ?_
              refine gy rfl ?_
              refine cvi rfl rfl Try.underlying3 (by first | exact w_i64 (by omega) | exact w_i64 (rng_i64 _) | rfl) rfl ?_
              refine gy rfl ?_
              refine neq rfl rfl rfl ?_
              refine gy rfl ?_
              refine mv (v := .bool _) rfl rfl ?_
              first | refine spL (t := 72) (b := false) rfl ?_ | refine spF (t := 72) rfl (fun h => h rfl) ?_   -- guard 2
              refine gy rfl ?_
              refine mv (v := .slice _ _ _) rfl rfl ?_
              refine gy rfl ?_
              refine mv (v := .int .i64 _) rfl rfl ?_
              refine gy rfl ?_
              refine iBN (ad8.add k) rfl rfl Try.underlying22 sz24_1 (by omega) (by simp) rfl ?_
              refine gy rfl ?_
              refine lc (v := .int .u32 ((vF zs 4095) k)) rfl (by rw [← hgk]; exact H.fr.cell hc8 (by simp)) sc24 rfl ?_
              refine gy rfl ?_
              refine mv (v := .int .u32 _) rfl rfl ?_
              refine gy rfl ?_
              refine neq rfl rfl rfl ?_
              refine gy rfl ?_
              refine pkF (v := .bool _) rfl rfl rfl ?_
              refine pkT (v := .bool _) rfl rfl rfl ?_
              refine nl ?_
              refine then_n ?_
              first | refine cF rfl (fun h => h rfl) ?_ | refine cbF rfl (fun h => h rfl) ?_   -- test 5
              refine sk ?_
              refine in_n ?_
              refine then_n ?_
              refine rg ?_
              refine add rfl rfl (by first | exact w_i64 (by omega) | exact w_i64 (rng_i64 _) | rfl) rfl ?_
              refine mv (v := .int .i64 _) rfl rfl ?_
              refine nl ?_
              refine loop_n ?_
              exact ⟨k + 1, (by (try dsimp only); omega), ⟨by omega, H⟩, (fC (by first | rfl | exact congrArg (Value.int _) (by first | omega | assumption | (symm; assumption) | (simp; done) | (simp; omega)) | exact congrArg (fun n => Value.slice _ n _) (by first | omega | (simp; done) | (simp; omega))) (fN _)), (by repeat (first | exact Agree.setL rfl Agree.mask | exact Agree.self _ _ | refine Agree.upd rfl ?_ | refine Agree.setL rfl ?_ | refine Agree.mask2 rfl ?_))⟩
            · refine gn rfl rfl ?_
              refine gn rfl rfl ?_
              refine gn rfl rfl ?_
              refine gn rfl rfl ?_
              refine gn rfl rfl ?_
              refine gn rfl rfl ?_
              refine gn rfl rfl ?_
              refine gn rfl rfl ?_
              refine gnU rfl rfl ?_
              refine gnU rfl rfl ?_
              refine gnU rfl rfl ?_
              refine gnU rfl rfl ?_
              refine gnU rfl rfl ?_
              refine gnU rfl rfl ?_
              refine gn rfl rfl ?_
              refine pkF (v := .bool _) rfl rfl rfl ?_
              refine nl ?_
              refine then_n ?_
              refine cbF rfl rfl ?_
              refine sk ?_
              refine in_n ?_
              refine then_n ?_
              refine rg ?_
              refine add rfl rfl (by first | exact w_i64 (by omega) | exact w_i64 (rng_i64 _) | rfl) rfl ?_
              refine mv (v := .int .i64 _) rfl rfl ?_
              refine nl ?_
              refine loop_n ?_
              exact ⟨k + 1, (by (try dsimp only); omega), ⟨by omega, H⟩, (fC (by first | rfl | exact congrArg (Value.int _) (by first | omega | assumption | (symm; assumption) | (simp; done) | (simp; omega)) | exact congrArg (fun n => Value.slice _ n _) (by first | omega | (simp; done) | (simp; omega))) (fN _)), (by repeat (first | exact Agree.setL rfl Agree.mask | exact Agree.self _ _ | refine Agree.upd rfl ?_ | refine Agree.setL rfl ?_ | refine Agree.mask2 rfl ?_))⟩
          · refine ex ?_
            refine then_e ?_
            refine loop_e ?_
            refine in_hit rfl ?_
            refine then_n ?_
            refine sq ?_
            refine rg ?_
            refine asg (v := .bool _) rfl rfl ?_
            refine nl ?_
            refine then_n ?_
            refine rt ?_
            refine fin_r ?_
            exact ⟨rfl, F0.trans H.fr⟩

set_option maxRecDepth 100000 in
set_option maxHeartbeats 4000000 in
theorem c_FnFatTable16 (w : World) (x : Int) (A0 : Option Addr) (m0 c0 : Nat) (zs : List Int) (h0 : 0 ≤ x ∧ x ≤ 255) (hx : x % 3 = 1) (hlc : m0 ≤ c0) (hcm : c0 ≤ 9223372036854775807) (hrow : ∀ i, i < m0 → ∃ ad, A0 = some ad ∧ w.cell? (ad.add i) = some (.int .u32 (zs.getD i 0))) : Calls Try.prog 3 #[.int .u8 x, .slice A0 m0 c0] w (Ret fun v w' => v = .bool true ∧ Fr [] w w') := by
  refine enter (fun ρ => ρ 4) Try.func3 rfl rfl rfl (res1 rfl) ?_
  have H := SH.nil w
  obtain ⟨M, hM⟩ : ∃ M, M = min m0 200 := ⟨_, rfl⟩
  have hv : ∀ i, 2 ≤ i → i < M + 2 → 0 ≤ (vF zs 65535) i ∧ (vF zs 65535) i ≤ 65535 := fun i h1 _ => vF_rng zs (k := 16) (by decide) h1
  refine sq ?_
  refine rg ?_
  refine asg (v := .bool _) rfl rfl ?_
  refine nl ?_
  refine then_n ?_
  refine sq ?_
  refine sq ?_
  refine rg ?_
  refine mv (v := .slice _ _ _) rfl rfl ?_
  refine lnS rfl Try.underlying22 rfl ?_
  refine gtr rfl rfl rfl ?_
  refine nl ?_
  refine then_n ?_
  first | refine cd rfl (fun hc1 => ?_) (fun hc1 => ?_) | refine cn rfl (fun hc1 => ?_) (fun hc1 => ?_)   -- test 1
  · refine sq ?_
    refine rg ?_
    refine asg (v := .bool _) rfl rfl ?_
    refine nl ?_
    refine then_n ?_
    refine rt ?_
    refine then_r ?_
    refine fin_r ?_
    exact ⟨rfl, H.fr⟩
  · refine sk ?_
    refine then_n ?_
    refine sq ?_
    refine rg ?_
    refine mv (v := .int .u8 _) rfl rfl ?_
    refine cl ca4 (c_fatBits16 _ x h0 hx) rfl ?_
    rintro _ w1 ⟨rfl, F⟩
    replace H := H.keep F; clear F
    refine asg (v := .int .i64 _) rfl rfl ?_
    refine nl ?_
    refine then_n ?_
    refine sq ?_
    refine rg ?_
    refine mv (v := .slice _ _ _) rfl rfl ?_
    refine mv (v := .slice _ _ _) rfl rfl ?_
    refine lnS rfl Try.underlying22 rfl ?_
    refine min2 rfl rfl rfl ?_
    refine slhN (M) rfl rfl Try.underlying22 sz24_1 (by omega) (by omega) rfl ?_
    refine asg (v := .slice _ _ _) rfl rfl ?_
    refine nl ?_
    refine then_n ?_
    refine sq ?_
    refine rg ?_
    refine mkm H rfl ?_
    clear H; intro b1 w2 hb1 H F
    refine ins (v := .int .u32 _) H rfl rfl rfl Try.underlying25 Try.underlying3 (by rfl) ?_
    clear H; intro w3 H _
    refine ins (v := .int .u32 _) H rfl rfl rfl Try.underlying25 Try.underlying3 (by rfl) ?_
    clear H; intro w4 H _
    refine ins (v := .int .u32 _) H rfl rfl rfl Try.underlying25 Try.underlying3 (by rfl) ?_
    clear H; intro w5 H _
    refine mv (v := .map _) rfl rfl ?_
    refine mv (v := .int .i64 _) rfl rfl ?_
    refine lkp (v := .int .u32 _) H rfl rfl Try.underlying25 Try.underlying3 ⟨_, rfl⟩ rfl ?_
    refine asg (v := .int .u32 _) rfl rfl ?_
    refine nl ?_
    refine then_n ?_
    refine sq ?_
    refine rg ?_
    refine bsl (sz := 1) (out := ?o1) H Try.underlying22 ze24 sz24_1 (by decide) ?f1 rfl ?_
    case f1 =>
      refine FS.one (v := .int .u32 _) rfl rfl rfl (by first | decide | simp) ?_
      refine FS.one (v := .int .u32 _) rfl rfl rfl (by first | decide | simp) ?_
      exact FS.nil
    clear H; intro b2 w6 hb2 H F
    have O := (OR.made (sz := 1) (n := 2) (cap := 2) H (by decide) (by decide) rfl).sub (List.nil_sublist _)
    replace O : OR 24 1 w [] _ [] _ 2 2 (clR .u32 2 (vF zs 65535)) := O
    replace H := O.sh
    refine asg (v := .slice _ _ _) rfl rfl ?_
    refine nl ?_
    refine then_n ?_
    refine sq ?_
    refine sq ?_
    refine rg ?_
    refine mv (v := .slice _ _ _) rfl rfl ?_
    refine lnS rfl Try.underlying22 rfl ?_
    refine mv (v := .int .i64 _) rfl rfl ?_
    refine nl ?_
    refine then_n ?_
    refine bk ?_
    refine lpM (α := Nat × Option Addr × Nat) [7, 9, 31, 32, 33, 34, 35, 36, 37, 38, 39, 40, 41] (fun (i, D, cp) => [(7, .slice D (i + 2) cp), (31, .int .i64 (i : Int))]) (fun (i, D, cp) w' => i ≤ M ∧ OR 24 1 w [] w' [] D (i + 2) cp (clR .u32 (i + 2) (vF zs 65535))) (fun (i, D, cp) => M - i) (0, some ⟨b2, 0, none⟩, 2) ?_ (fC (by first | rfl | exact congrArg (Value.int _) (by first | omega | assumption | (symm; assumption) | (simp; done) | (simp; omega)) | exact congrArg (fun n => Value.slice _ n _) (by first | omega | (simp; done) | (simp; omega))) (fC (by first | rfl | exact congrArg (Value.int _) (by first | omega | assumption | (symm; assumption) | (simp; done) | (simp; omega)) | exact congrArg (fun n => Value.slice _ n _) (by first | omega | (simp; done) | (simp; omega))) (fN _))) ?_   -- loop 1
    · exact ⟨by omega, O⟩
    · rintro ⟨i, D, cp⟩ ρx w7 ⟨hi, O⟩
      have H := O.sh
      refine sq ?_
      refine rg ?_
      refine lss rfl rfl rfl ?_
      refine nl ?_
      refine then_n ?_
      refine sq ?_
      first | refine cd rfl (fun hc2 => ?_) (fun hc2 => ?_) | refine cn rfl (fun hc2 => ?_) (fun hc2 => ?_)   -- test 2
      · obtain ⟨ad, rfl, hcell⟩ := hrow i (by omega)
        refine sk ?_
        refine then_n ?_
        refine sq ?_
        refine bk ?_
        refine sq ?_
        refine rg ?_
        refine iBN (ad.add i) rfl rfl Try.underlying22 sz24_1 (by omega) (by simp) rfl ?_
        refine lc (v := .int .u32 (zs.getD i 0)) rfl (H.fr.cell hcell (by simp)) sc24 rfl ?_
        refine asg (v := .int .u32 _) rfl rfl ?_
        refine nl ?_
        refine then_n ?_
        refine rg ?_
        refine mv (v := .slice _ _ _) rfl rfl ?_
        refine mv (v := .int .u32 _) rfl rfl ?_
        refine mv (v := .int .u32 _) rfl rfl ?_
        refine band rfl rfl rfl rfl ?_
        refine bsl (sz := 1) (out := ?o2) H Try.underlying22 ze24 sz24_1 (by decide) ?f2 rfl ?_
        case f2 =>
          refine FS.one (v := .int .u32 _) rfl rfl rfl (by first | decide | simp) ?_
          exact FS.nil
        intro b3 w8 hb3 H1 F; replace O := O.new F hb3 H1.look; clear H H1 F; have H := O.sh
        refine apO (zs := [.int .u32 0]) [.int .u32 (bits .and .u32 (zs.getD i 0) 65535)] O rfl rfl Try.underlying22 ri24 (by first | rfl | simp) (cells_look H.look) (by simp [Value.oneCell']) (by simp) (by omega) (by unfold maxLen; omega) rfl ?_
        clear O H; intro D9 cp9 w9 O
        replace O := O.drop; have H := O.sh
        refine asg (v := .slice _ _ _) rfl rfl ?_
        refine nl ?_
        refine in_n ?_
        refine then_n ?_
        refine rg ?_
        refine add rfl rfl (by first | exact w_i64 (by omega) | exact w_i64 (rng_i64 _) | rfl) rfl ?_
        refine mv (v := .int .i64 _) rfl rfl ?_
        refine nl ?_
        refine loop_n ?_
        exact ⟨(i + 1, D9, cp9), (by (try dsimp only); omega), ⟨by omega, by rw [show i + 1 + 2 = i + 2 + 1 by omega, clR_snoc, vF_next]; exact O⟩, (fC (by first | rfl | exact congrArg (Value.int _) (by first | omega | assumption | (symm; assumption) | (simp; done) | (simp; omega)) | exact congrArg (fun n => Value.slice _ n _) (by first | omega | (simp; done) | (simp; omega))) (fC (by first | rfl | exact congrArg (Value.int _) (by first | omega | assumption | (symm; assumption) | (simp; done) | (simp; omega)) | exact congrArg (fun n => Value.slice _ n _) (by first | omega | (simp; done) | (simp; omega))) (fN _))), (by repeat (first | exact Agree.setL rfl Agree.mask | exact Agree.self _ _ | refine Agree.upd rfl ?_ | refine Agree.setL rfl ?_ | refine Agree.mask2 rfl ?_))⟩
      · obtain rfl : i = M := by omega
        refine ex ?_
        refine then_e ?_
        refine loop_e ?_
        refine in_hit rfl ?_
        refine then_n ?_
        refine sq ?_
        refine rg ?_
        obtain ⟨ad9, rfl⟩ := O.some_of (by omega)
        refine mv (v := .int .i64 _) rfl rfl ?_
        refine mv (v := .slice _ _ _) rfl rfl ?_
        refine cl ca5 (c_FatTable16 _ (i + 2) cp (vF zs 65535) ad9 (by omega) hv (fun j h1 h2 => by obtain ⟨ad8, e, h⟩ := O.cells j _ (clR_get h2); cases e; exact h)) rfl ?_
        rintro _ w10 ⟨rfl, F⟩
        replace H := H.keep F; replace O := O.keep F; clear F
        refine asg (v := .string _) rfl rfl ?_
        refine nl ?_
        refine then_n ?_
        refine sq ?_
        refine rg ?_
        refine mv (v := .int .i64 _) rfl rfl ?_
        refine mv (v := .string _) rfl rfl ?_
        refine mv (v := .slice _ _ _) rfl rfl ?_
        refine lnS rfl Try.underlying22 rfl ?_
        refine cl ca6 (c_FatValues16 _ (i + 2) (vF zs 65535) (by omega) hv) rfl ?_
        rintro _ w11 ⟨D8, cp8, rfl, hgot, F9⟩
        replace H := H.keep F9; replace O := O.keep F9; clear F9
        refine asg (v := .slice _ _ _) rfl rfl ?_
        refine nl ?_
        refine then_n ?_
        refine sq ?_
        refine sq ?_
        refine rg ?_
        refine mv (v := .slice _ _ _) rfl rfl ?_
        refine lnS rfl Try.underlying22 rfl ?_
        refine mv (v := .slice _ _ _) rfl rfl ?_
        refine lnS rfl Try.underlying22 rfl ?_
        refine neq rfl rfl rfl ?_
        refine nl ?_
        refine then_n ?_
        first | refine cF rfl (by omega) ?_ | refine cbF rfl (by omega) ?_   -- test 3
        refine sk ?_
        refine then_n ?_
        refine sq ?_
        refine sq ?_
        refine rg ?_
        refine mv (v := .slice _ _ _) rfl rfl ?_
        refine lnS rfl Try.underlying22 rfl ?_
        refine mv (v := .int .i64 _) rfl rfl ?_
        refine nl ?_
        refine then_n ?_
        refine bk ?_
        have F0 := H.fr
        have hvals : ∀ j, j < i + 2 → w11.cell? (ad9.add j) = some (.int .u32 ((vF zs 65535) j)) := fun j h => by
          obtain ⟨_, e, hc⟩ := O.cells j _ (clR_get h)
          cases e; exact hc
        clear H O
        refine lpM (α := Nat) [4, 12, 13, 57, 58, 59, 60, 61, 62, 63, 64, 65, 66, 67, 68, 69, 70, 71, 72, 73, 74, 75, 76, 77, 78, 79, 80, 81] (fun k => [(57, .int .i64 (k : Int))]) (fun k w' => k ≤ i + 2 ∧ SH w11 [] w' []) (fun k => i + 2 - k) 0 ?_ (fC (by first | rfl | exact congrArg (Value.int _) (by first | omega | assumption | (symm; assumption) | (simp; done) | (simp; omega)) | exact congrArg (fun n => Value.slice _ n _) (by first | omega | (simp; done) | (simp; omega))) (fN _)) ?_   -- loop 2
        · exact ⟨by omega, SH.nil _⟩
        · rintro k ρx w12 ⟨hk, H⟩
          refine sq ?_
          refine rg ?_
          refine lss rfl rfl rfl ?_
          refine nl ?_
          refine then_n ?_
          refine sq ?_
          first | refine cd rfl (fun hc4 => ?_) (fun hc4 => ?_) | refine cn rfl (fun hc4 => ?_) (fun hc4 => ?_)   -- test 4
          · have hcv := H.fr.cell (hvals k (by omega)) (by simp)
            refine sk ?_
            refine then_n ?_
            refine sq ?_
            refine bk ?_
            refine sq ?_
            refine rg ?_
            refine mv (v := .int .i64 _) rfl rfl ?_
            refine iBN (ad9.add k) rfl rfl Try.underlying22 sz24_1 (by omega) (by simp) rfl ?_
            refine lc (v := .int .u32 ((vF zs 65535) k)) rfl hcv sc24 rfl ?_
            refine asg (v := .int .i64 _) rfl rfl ?_
            refine asg (v := .int .u32 _) rfl rfl ?_
            refine nl ?_
            refine then_n ?_
            refine sq ?_
            refine rg ?_
            refine mv (v := .int .i64 _) rfl rfl ?_
            refine gtr rfl rfl rfl ?_
            refine mv (v := .bool _) rfl rfl ?_
            first | refine spd (t := 64) rfl (fun hg1 => ?_) (fun hg1 => ?_) | refine sp (t := 64) rfl (fun hg1 => ?_) (fun hg1 => ?_)   -- guard 1
            · obtain ⟨ad8, rfl, hc8⟩ := hgot k (by omega)
              have hgk : gI (vF zs 65535) (i + 2) k = (vF zs 65535) k := gI_at ⟨by omega, by omega⟩
              have hvk := hv k (by omega) (by omega)
              refine gy rfl ?_
              refine mv (v := .int .i64 _) rfl rfl ?_
              refine gy rfl ?_
              refine mv (v := .string _) rfl rfl ?_
              refine gy rfl ?_
              refine mv (v := .int .i64 _) rfl rfl ?_
              refine gy rfl ?_
              refine cl ca7 (c_fe16 _ (i + 2) k (gI (vF zs 65535) (i + 2)) (by omega) (gI_rng hv) ⟨by omega, by omega⟩) rfl ?_
              rintro _ w13 ⟨rfl, F⟩
              replace H := H.keep F; clear F
              rw [hgk]
              refine gy rfl ?_
              refine mv (v := .int .u32 _) rfl rfl ?_
              refine gy rfl ?_
              refine cvi rfl rfl Try.underlying3 (by first | exact w_i64 (by omega) | exact w_i64 (rng_i64 _) | rfl) rfl ?_
              refine gy rfl ?_
              refine neq rfl rfl rfl ?_
              refine gy rfl ?_
              refine mv (v := .bool _) rfl rfl ?_
              first | refine spL (t := 72) (b := false) rfl ?_ | refine spF (t := 72) rfl (fun h => h rfl) ?_   -- guard 2
              refine gy rfl ?_
              refine mv (v := .slice _ _ _) rfl rfl ?_
              refine gy rfl ?_
              refine mv (v := .int .i64 _) rfl rfl ?_
              refine gy rfl ?_
              refine iBN (ad8.add k) rfl rfl Try.underlying22 sz24_1 (by omega) (by simp) rfl ?_
              refine gy rfl ?_
              refine lc (v := .int .u32 ((vF zs 65535) k)) rfl (by rw [← hgk]; exact H.fr.cell hc8 (by simp)) sc24 rfl ?_
              refine gy rfl ?_
              refine mv (v := .int .u32 _) rfl rfl ?_
              refine gy rfl ?_
              refine neq rfl rfl rfl ?_
              refine gy rfl ?_
              refine pkF (v := .bool _) rfl rfl rfl ?_
              refine pkT (v := .bool _) rfl rfl rfl ?_
              refine nl ?_
              refine then_n ?_
              first | refine cF rfl (fun h => h rfl) ?_ | refine cbF rfl (fun h => h rfl) ?_   -- test 5
              refine sk ?_
              refine in_n ?_
              refine then_n ?_
              refine rg ?_
              refine add rfl rfl (by first | exact w_i64 (by omega) | exact w_i64 (rng_i64 _) | rfl) rfl ?_
              refine mv (v := .int .i64 _) rfl rfl ?_
              refine nl ?_
              refine loop_n ?_
              exact ⟨k + 1, (by (try dsimp only); omega), ⟨by omega, H⟩, (fC (by first | rfl | exact congrArg (Value.int _) (by first | omega | assumption | (symm; assumption) | (simp; done) | (simp; omega)) | exact congrArg (fun n => Value.slice _ n _) (by first | omega | (simp; done) | (simp; omega))) (fN _)), (by repeat (first | exact Agree.setL rfl Agree.mask | exact Agree.self _ _ | refine Agree.upd rfl ?_ | refine Agree.setL rfl ?_ | refine Agree.mask2 rfl ?_))⟩
            · refine gn rfl rfl ?_
              refine gn rfl rfl ?_
              refine gn rfl rfl ?_
              refine gn rfl rfl ?_
              refine gn rfl rfl ?_
              refine gn rfl rfl ?_
              refine gn rfl rfl ?_
              refine gn rfl rfl ?_
              refine gnU rfl rfl ?_
              refine gnU rfl rfl ?_
              refine gnU rfl rfl ?_
              refine gnU rfl rfl ?_
              refine gnU rfl rfl ?_
              refine gnU rfl rfl ?_
              refine gn rfl rfl ?_
              refine pkF (v := .bool _) rfl rfl rfl ?_
              refine nl ?_
              refine then_n ?_
              refine cbF rfl rfl ?_
              refine sk ?_
              refine in_n ?_
              refine then_n ?_
              refine rg ?_
              refine add rfl rfl (by first | exact w_i64 (by omega) | exact w_i64 (rng_i64 _) | rfl) rfl ?_
              refine mv (v := .int .i64 _) rfl rfl ?_
              refine nl ?_
              refine loop_n ?_
              exact ⟨k + 1, (by (try dsimp only); omega), ⟨by omega, H⟩, (fC (by first | rfl | exact congrArg (Value.int _) (by first | omega | assumption | (symm; assumption) | (simp; done) | (simp; omega)) | exact congrArg (fun n => Value.slice _ n _) (by first | omega | (simp; done) | (simp; omega))) (fN _)), (by repeat (first | exact Agree.setL rfl Agree.mask | exact Agree.self _ _ | refine Agree.upd rfl ?_ | refine Agree.setL rfl ?_ | refine Agree.mask2 rfl ?_))⟩
          · refine ex ?_
            refine then_e ?_
            refine loop_e ?_
            refine in_hit rfl ?_
            refine then_n ?_
            refine sq ?_
            refine rg ?_
            refine asg (v := .bool _) rfl rfl ?_
            refine nl ?_
            refine then_n ?_
            refine rt ?_
            refine fin_r ?_
            exact ⟨rfl, F0.trans H.fr⟩

set_option maxRecDepth 100000 in
set_option maxHeartbeats 4000000 in
theorem c_FnFatTable32 (w : World) (x : Int) (A0 : Option Addr) (m0 c0 : Nat) (zs : List Int) (h0 : 0 ≤ x ∧ x ≤ 255) (hx : x % 3 = 2) (hlc : m0 ≤ c0) (hcm : c0 ≤ 9223372036854775807) (hrow : ∀ i, i < m0 → ∃ ad, A0 = some ad ∧ w.cell? (ad.add i) = some (.int .u32 (zs.getD i 0))) : Calls Try.prog 3 #[.int .u8 x, .slice A0 m0 c0] w (Ret fun v w' => v = .bool true ∧ Fr [] w w') := by
  refine enter (fun ρ => ρ 4) Try.func3 rfl rfl rfl (res1 rfl) ?_
  have H := SH.nil w
  obtain ⟨M, hM⟩ : ∃ M, M = min m0 200 := ⟨_, rfl⟩
  have hv : ∀ i, 2 ≤ i → i < M + 2 → 0 ≤ (vF zs 268435455) i ∧ (vF zs 268435455) i ≤ 268435455 := fun i h1 _ => vF_rng zs (k := 28) (by decide) h1
  refine sq ?_
  refine rg ?_
  refine asg (v := .bool _) rfl rfl ?_
  refine nl ?_
  refine then_n ?_
  refine sq ?_
  refine sq ?_
  refine rg ?_
  refine mv (v := .slice _ _ _) rfl rfl ?_
  refine lnS rfl Try.underlying22 rfl ?_
  refine gtr rfl rfl rfl ?_
  refine nl ?_
  refine then_n ?_
  first | refine cd rfl (fun hc1 => ?_) (fun hc1 => ?_) | refine cn rfl (fun hc1 => ?_) (fun hc1 => ?_)   -- test 1
  · refine sq ?_
    refine rg ?_
    refine asg (v := .bool _) rfl rfl ?_
    refine nl ?_
    refine then_n ?_
    refine rt ?_
    refine then_r ?_
    refine fin_r ?_
    exact ⟨rfl, H.fr⟩
  · refine sk ?_
    refine then_n ?_
    refine sq ?_
    refine rg ?_
    refine mv (v := .int .u8 _) rfl rfl ?_
    refine cl ca4 (c_fatBits32 _ x h0 hx) rfl ?_
    rintro _ w1 ⟨rfl, F⟩
    replace H := H.keep F; clear F
    refine asg (v := .int .i64 _) rfl rfl ?_
    refine nl ?_
    refine then_n ?_
    refine sq ?_
    refine rg ?_
    refine mv (v := .slice _ _ _) rfl rfl ?_
    refine mv (v := .slice _ _ _) rfl rfl ?_
    refine lnS rfl Try.underlying22 rfl ?_
    refine min2 rfl rfl rfl ?_
    refine slhN (M) rfl rfl Try.underlying22 sz24_1 (by omega) (by omega) rfl ?_
    refine asg (v := .slice _ _ _) rfl rfl ?_
    refine nl ?_
    refine then_n ?_
    refine sq ?_
    refine rg ?_
    refine mkm H rfl ?_
    clear H; intro b1 w2 hb1 H F
    refine ins (v := .int .u32 _) H rfl rfl rfl Try.underlying25 Try.underlying3 (by rfl) ?_
    clear H; intro w3 H _
    refine ins (v := .int .u32 _) H rfl rfl rfl Try.underlying25 Try.underlying3 (by rfl) ?_
    clear H; intro w4 H _
    refine ins (v := .int .u32 _) H rfl rfl rfl Try.underlying25 Try.underlying3 (by rfl) ?_
    clear H; intro w5 H _
    refine mv (v := .map _) rfl rfl ?_
    refine mv (v := .int .i64 _) rfl rfl ?_
    refine lkp (v := .int .u32 _) H rfl rfl Try.underlying25 Try.underlying3 ⟨_, rfl⟩ rfl ?_
    refine asg (v := .int .u32 _) rfl rfl ?_
    refine nl ?_
    refine then_n ?_
    refine sq ?_
    refine rg ?_
    refine bsl (sz := 1) (out := ?o1) H Try.underlying22 ze24 sz24_1 (by decide) ?f1 rfl ?_
    case f1 =>
      refine FS.one (v := .int .u32 _) rfl rfl rfl (by first | decide | simp) ?_
      refine FS.one (v := .int .u32 _) rfl rfl rfl (by first | decide | simp) ?_
      exact FS.nil
    clear H; intro b2 w6 hb2 H F
    have O := (OR.made (sz := 1) (n := 2) (cap := 2) H (by decide) (by decide) rfl).sub (List.nil_sublist _)
    replace O : OR 24 1 w [] _ [] _ 2 2 (clR .u32 2 (vF zs 268435455)) := O
    replace H := O.sh
    refine asg (v := .slice _ _ _) rfl rfl ?_
    refine nl ?_
    refine then_n ?_
    refine sq ?_
    refine sq ?_
    refine rg ?_
    refine mv (v := .slice _ _ _) rfl rfl ?_
    refine lnS rfl Try.underlying22 rfl ?_
    refine mv (v := .int .i64 _) rfl rfl ?_
    refine nl ?_
    refine then_n ?_
    refine bk ?_
    refine lpM (α := Nat × Option Addr × Nat) [7, 9, 31, 32, 33, 34, 35, 36, 37, 38, 39, 40, 41] (fun (i, D, cp) => [(7, .slice D (i + 2) cp), (31, .int .i64 (i : Int))]) (fun (i, D, cp) w' => i ≤ M ∧ OR 24 1 w [] w' [] D (i + 2) cp (clR .u32 (i + 2) (vF zs 268435455))) (fun (i, D, cp) => M - i) (0, some ⟨b2, 0, none⟩, 2) ?_ (fC (by first | rfl | exact congrArg (Value.int _) (by first | omega | assumption | (symm; assumption) | (simp; done) | (simp; omega)) | exact congrArg (fun n => Value.slice _ n _) (by first | omega | (simp; done) | (simp; omega))) (fC (by first | rfl | exact congrArg (Value.int _) (by first | omega | assumption | (symm; assumption) | (simp; done) | (simp; omega)) | exact congrArg (fun n => Value.slice _ n _) (by first | omega | (simp; done) | (simp; omega))) (fN _))) ?_   -- loop 1
    · exact ⟨by omega, O⟩
    · rintro ⟨i, D, cp⟩ ρx w7 ⟨hi, O⟩
      have H := O.sh
      refine sq ?_
      refine rg ?_
      refine lss rfl rfl rfl ?_
      refine nl ?_
      refine then_n ?_
      refine sq ?_
      first | refine cd rfl (fun hc2 => ?_) (fun hc2 => ?_) | refine cn rfl (fun hc2 => ?_) (fun hc2 => ?_)   -- test 2
      · obtain ⟨ad, rfl, hcell⟩ := hrow i (by omega)
        refine sk ?_
        refine then_n ?_
        refine sq ?_
        refine bk ?_
        refine sq ?_
        refine rg ?_
        refine iBN (ad.add i) rfl rfl Try.underlying22 sz24_1 (by omega) (by simp) rfl ?_
        refine lc (v := .int .u32 (zs.getD i 0)) rfl (H.fr.cell hcell (by simp)) sc24 rfl ?_
        refine asg (v := .int .u32 _) rfl rfl ?_
        refine nl ?_
        refine then_n ?_
        refine rg ?_
        refine mv (v := .slice _ _ _) rfl rfl ?_
        refine mv (v := .int .u32 _) rfl rfl ?_
        refine mv (v := .int .u32 _) rfl rfl ?_
        refine band rfl rfl rfl rfl ?_
        refine bsl (sz := 1) (out := ?o2) H Try.underlying22 ze24 sz24_1 (by decide) ?f2 rfl ?_
        case f2 =>
          refine FS.one (v := .int .u32 _) rfl rfl rfl (by first | decide | simp) ?_
          exact FS.nil
        intro b3 w8 hb3 H1 F; replace O := O.new F hb3 H1.look; clear H H1 F; have H := O.sh
        refine apO (zs := [.int .u32 0]) [.int .u32 (bits .and .u32 (zs.getD i 0) 268435455)] O rfl rfl Try.underlying22 ri24 (by first | rfl | simp) (cells_look H.look) (by simp [Value.oneCell']) (by simp) (by omega) (by unfold maxLen; omega) rfl ?_
        clear O H; intro D9 cp9 w9 O
        replace O := O.drop; have H := O.sh
        refine asg (v := .slice _ _ _) rfl rfl ?_
        refine nl ?_
        refine in_n ?_
        refine then_n ?_
        refine rg ?_
        refine add rfl rfl (by first | exact w_i64 (by omega) | exact w_i64 (rng_i64 _) | rfl) rfl ?_
        refine mv (v := .int .i64 _) rfl rfl ?_
        refine nl ?_
        refine loop_n ?_
        exact ⟨(i + 1, D9, cp9), (by (try dsimp only); omega), ⟨by omega, by rw [show i + 1 + 2 = i + 2 + 1 by omega, clR_snoc, vF_next]; exact O⟩, (fC (by first | rfl | exact congrArg (Value.int _) (by first | omega | assumption | (symm; assumption) | (simp; done) | (simp; omega)) | exact congrArg (fun n => Value.slice _ n _) (by first | omega | (simp; done) | (simp; omega))) (fC (by first | rfl | exact congrArg (Value.int _) (by first | omega | assumption | (symm; assumption) | (simp; done) | (simp; omega)) | exact congrArg (fun n => Value.slice _ n _) (by first | omega | (simp; done) | (simp; omega))) (fN _))), (by repeat (first | exact Agree.setL rfl Agree.mask | exact Agree.self _ _ | refine Agree.upd rfl ?_ | refine Agree.setL rfl ?_ | refine Agree.mask2 rfl ?_))⟩
      · obtain rfl : i = M := by omega
        refine ex ?_
        refine then_e ?_
        refine loop_e ?_
        refine in_hit rfl ?_
        refine then_n ?_
        refine sq ?_
        refine rg ?_
        obtain ⟨ad9, rfl⟩ := O.some_of (by omega)
        refine mv (v := .int .i64 _) rfl rfl ?_
        refine mv (v := .slice _ _ _) rfl rfl ?_
        refine cl ca5 (c_FatTable32 _ (i + 2) cp (vF zs 268435455) ad9 (by omega) hv (fun j h1 h2 => by obtain ⟨ad8, e, h⟩ := O.cells j _ (clR_get h2); cases e; exact h)) rfl ?_
        rintro _ w10 ⟨rfl, F⟩
        replace H := H.keep F; replace O := O.keep F; clear F
        refine asg (v := .string _) rfl rfl ?_
        refine nl ?_
        refine then_n ?_
        refine sq ?_
        refine rg ?_
        refine mv (v := .int .i64 _) rfl rfl ?_
        refine mv (v := .string _) rfl rfl ?_
        refine mv (v := .slice _ _ _) rfl rfl ?_
        refine lnS rfl Try.underlying22 rfl ?_
        refine cl ca6 (c_FatValues32 _ (i + 2) (vF zs 268435455) (by omega) hv) rfl ?_
        rintro _ w11 ⟨D8, cp8, rfl, hgot, F9⟩
        replace H := H.keep F9; replace O := O.keep F9; clear F9
        refine asg (v := .slice _ _ _) rfl rfl ?_
        refine nl ?_
        refine then_n ?_
        refine sq ?_
        refine sq ?_
        refine rg ?_
        refine mv (v := .slice _ _ _) rfl rfl ?_
        refine lnS rfl Try.underlying22 rfl ?_
        refine mv (v := .slice _ _ _) rfl rfl ?_
        refine lnS rfl Try.underlying22 rfl ?_
        refine neq rfl rfl rfl ?_
        refine nl ?_
        refine then_n ?_
        first | refine cF rfl (by omega) ?_ | refine cbF rfl (by omega) ?_   -- test 3
        refine sk ?_
        refine then_n ?_
        refine sq ?_
        refine sq ?_
        refine rg ?_
        refine mv (v := .slice _ _ _) rfl rfl ?_
        refine lnS rfl Try.underlying22 rfl ?_
        refine mv (v := .int .i64 _) rfl rfl ?_
        refine nl ?_
        refine then_n ?_
        refine bk ?_
        have F0 := H.fr
        have hvals : ∀ j, j < i + 2 → w11.cell? (ad9.add j) = some (.int .u32 ((vF zs 268435455) j)) := fun j h => by
          obtain ⟨_, e, hc⟩ := O.cells j _ (clR_get h)
          cases e; exact hc
        clear H O
        refine lpM (α := Nat) [4, 12, 13, 57, 58, 59, 60, 61, 62, 63, 64, 65, 66, 67, 68, 69, 70, 71, 72, 73, 74, 75, 76, 77, 78, 79, 80, 81] (fun k => [(57, .int .i64 (k : Int))]) (fun k w' => k ≤ i + 2 ∧ SH w11 [] w' []) (fun k => i + 2 - k) 0 ?_ (fC (by first | rfl | exact congrArg (Value.int _) (by first | omega | assumption | (symm; assumption) | (simp; done) | (simp; omega)) | exact congrArg (fun n => Value.slice _ n _) (by first | omega | (simp; done) | (simp; omega))) (fN _)) ?_   -- loop 2
        · exact ⟨by omega, SH.nil _⟩
        · rintro k ρx w12 ⟨hk, H⟩
          refine sq ?_
          refine rg ?_
          refine lss rfl rfl rfl ?_
          refine nl ?_
          refine then_n ?_
          refine sq ?_
          first | refine cd rfl (fun hc4 => ?_) (fun hc4 => ?_) | refine cn rfl (fun hc4 => ?_) (fun hc4 => ?_)   -- test 4
          · have hcv := H.fr.cell (hvals k (by omega)) (by simp)
            refine sk ?_
            refine then_n ?_
            refine sq ?_
            refine bk ?_
            refine sq ?_
            refine rg ?_
            refine mv (v := .int .i64 _) rfl rfl ?_
            refine iBN (ad9.add k) rfl rfl Try.underlying22 sz24_1 (by omega) (by simp) rfl ?_
            refine lc (v := .int .u32 ((vF zs 268435455) k)) rfl hcv sc24 rfl ?_
            refine asg (v := .int .i64 _) rfl rfl ?_
            refine asg (v := .int .u32 _) rfl rfl ?_
            refine nl ?_
            refine then_n ?_
            refine sq ?_
            refine rg ?_
            refine mv (v := .int .i64 _) rfl rfl ?_
            refine gtr rfl rfl rfl ?_
            refine mv (v := .bool _) rfl rfl ?_
            first | refine spd (t := 64) rfl (fun hg1 => ?_) (fun hg1 => ?_) | refine sp (t := 64) rfl (fun hg1 => ?_) (fun hg1 => ?_)   -- guard 1
            · obtain ⟨ad8, rfl, hc8⟩ := hgot k (by omega)
              have hgk : gI (vF zs 268435455) (i + 2) k = (vF zs 268435455) k := gI_at ⟨by omega, by omega⟩
              have hvk := hv k (by omega) (by omega)
              refine gy rfl ?_
              refine mv (v := .int .i64 _) rfl rfl ?_
              refine gy rfl ?_
              refine mv (v := .string _) rfl rfl ?_
              refine gy rfl ?_
              refine mv (v := .int .i64 _) rfl rfl ?_
              refine gy rfl ?_
              refine cl ca7 (c_fe32 _ (i + 2) k (gI (vF zs 268435455) (i + 2)) (by omega) (gI_rng hv) ⟨by omega, by omega⟩) rfl ?_
              rintro _ w13 ⟨rfl, F⟩
              replace H := H.keep F; clear F
              rw [hgk]
              refine gy rfl ?_
              refine mv (v := .int .u32 _) rfl rfl ?_
              refine gy rfl ?_
              refine cvi rfl rfl Try.underlying3 (by first | exact w_i64 (by omega) | exact w_i64 (rng_i64 _) | rfl) rfl ?_
              refine gy rfl ?_
              refine neq rfl rfl rfl ?_
              refine gy rfl ?_
              refine mv (v := .bool _) rfl rfl ?_
              first | refine spL (t := 72) (b := false) rfl ?_ | refine spF (t := 72) rfl (fun h => h rfl) ?_   -- guard 2
              refine gy rfl ?_
              refine mv (v := .slice _ _ _) rfl rfl ?_
              refine gy rfl ?_
              refine mv (v := .int .i64 _) rfl rfl ?_
              refine gy rfl ?_
              refine iBN (ad8.add k) rfl rfl Try.underlying22 sz24_1 (by omega) (by simp) rfl ?_
              refine gy rfl ?_
              refine lc (v := .int .u32 ((vF zs 268435455) k)) rfl (by rw [← hgk]; exact H.fr.cell hc8 (by simp)) sc24 rfl ?_
              refine gy rfl ?_
              refine mv (v := .int .u32 _) rfl rfl ?_
              refine gy rfl ?_
              refine neq rfl rfl rfl ?_
              refine gy rfl ?_
              refine pkF (v := .bool _) rfl rfl rfl ?_
              refine pkT (v := .bool _) rfl rfl rfl ?_
              refine nl ?_
              refine then_n ?_
              first | refine cF rfl (fun h => h rfl) ?_ | refine cbF rfl (fun h => h rfl) ?_   -- test 5
              refine sk ?_
              refine in_n ?_
              refine then_n ?_
              refine rg ?_
              refine add rfl rfl (by first | exact w_i64 (by omega) | exact w_i64 (rng_i64 _) | rfl) rfl ?_
              refine mv (v := .int .i64 _) rfl rfl ?_
              refine nl ?_
              refine loop_n ?_
              exact ⟨k + 1, (by (try dsimp only); omega), ⟨by omega, H⟩, (fC (by first | rfl | exact congrArg (Value.int _) (by first | omega | assumption | (symm; assumption) | (simp; done) | (simp; omega)) | exact congrArg (fun n => Value.slice _ n _) (by first | omega | (simp; done) | (simp; omega))) (fN _)), (by repeat (first | exact Agree.setL rfl Agree.mask | exact Agree.self _ _ | refine Agree.upd rfl ?_ | refine Agree.setL rfl ?_ | refine Agree.mask2 rfl ?_))⟩
            · refine gn rfl rfl ?_
              refine gn rfl rfl ?_
              refine gn rfl rfl ?_
              refine gn rfl rfl ?_
              refine gn rfl rfl ?_
              refine gn rfl rfl ?_
              refine gn rfl rfl ?_
              refine gn rfl rfl ?_
              refine gnU rfl rfl ?_
              refine gnU rfl rfl ?_
              refine gnU rfl rfl ?_
              refine gnU rfl rfl ?_
              refine gnU rfl rfl ?_
              refine gnU rfl rfl ?_
              refine gn rfl rfl ?_
              refine pkF (v := .bool _) rfl rfl rfl ?_
              refine nl ?_
              refine then_n ?_
              refine cbF rfl rfl ?_
              refine sk ?_
              refine in_n ?_
              refine then_n ?_
              refine rg ?_
              refine add rfl rfl (by first | exact w_i64 (by omega) | exact w_i64 (rng_i64 _) | rfl) rfl ?_
              refine mv (v := .int .i64 _) rfl rfl ?_
              refine nl ?_
              refine loop_n ?_
              exact ⟨k + 1, (by (try dsimp only); omega), ⟨by omega, H⟩, (fC (by first | rfl | exact congrArg (Value.int _) (by first | omega | assumption | (symm; assumption) | (simp; done) | (simp; omega)) | exact congrArg (fun n => Value.slice _ n _) (by first | omega | (simp; done) | (simp; omega))) (fN _)), (by repeat (first | exact Agree.setL rfl Agree.mask | exact Agree.self _ _ | refine Agree.upd rfl ?_ | refine Agree.setL rfl ?_ | refine Agree.mask2 rfl ?_))⟩
          · refine ex ?_
            refine then_e ?_
            refine loop_e ?_
            refine in_hit rfl ?_
            refine then_n ?_
            refine sq ?_
            refine rg ?_
            refine asg (v := .bool _) rfl rfl ?_
            refine nl ?_
            refine then_n ?_
            refine rt ?_
            refine fin_r ?_
            exact ⟨rfl, F0.trans H.fr⟩

theorem fatTableAt (w : World) (x : Int) (A0 : Option Addr) (m0 c0 : Nat) (zs : List Int) (h0 : 0 ≤ x ∧ x ≤ 255) (hr : m0 ≤ c0 ∧ c0 ≤ 9223372036854775807 ∧ ∀ i, i < m0 → ∃ ad, A0 = some ad ∧ w.cell? (ad.add i) = some (.int .u32 (zs.getD i 0))) : Calls Try.prog 3 #[.int .u8 x, .slice A0 m0 c0] w (Ret fun v w' => v = .bool true ∧ Fr [] w w') := by
  have h3 : x % 3 = 0 ∨ x % 3 = 1 ∨ x % 3 = 2 := by omega
  rcases h3 with h | h | h
  · exact c_FnFatTable12 w x A0 m0 c0 zs h0 h hr.1 hr.2.1 hr.2.2
  · exact c_FnFatTable16 w x A0 m0 c0 zs h0 h hr.1 hr.2.1 hr.2.2
  · exact c_FnFatTable32 w x A0 m0 c0 zs h0 h hr.1 hr.2.1 hr.2.2

end Go.Proofs.Ytgmkjndmjnbahaa.X
