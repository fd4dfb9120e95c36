/- Walks of functions, printed by a program of this claim. -/
import Derived.Test.YtgmkjndmjnbahaaT5
namespace Go.Proofs.Ytgmkjndmjnbahaa.X
set_option linter.unusedVariables false
set_option linter.unusedSimpArgs false
open Go Go.RowKit

namespace T6
theorem ag75_0 : aggB Try.prog 75 0 = true := by kernel_rfl
theorem ca45 : callable Try.prog 45 = true := by kernel_rfl
theorem ca58 : callable Try.prog 58 = true := by kernel_rfl
theorem ca71 : callable Try.prog 71 = true := by kernel_rfl
theorem fo50_3 : fieldOff Try.prog 50 3 = some 3 := by kernel_rfl
theorem fo50_6 : fieldOff Try.prog 50 6 = some 6 := by kernel_rfl
theorem fo52_0 : fieldOff Try.prog 52 0 = some 0 := by kernel_rfl
theorem fo52_3 : fieldOff Try.prog 52 3 = some 3 := by kernel_rfl
theorem fo52_4 : fieldOff Try.prog 52 4 = some 4 := by kernel_rfl
theorem fo54_0 : fieldOff Try.prog 54 0 = some 0 := by kernel_rfl
theorem fo54_2 : fieldOff Try.prog 54 2 = some 2 := by kernel_rfl
theorem fo54_3 : fieldOff Try.prog 54 3 = some 3 := by kernel_rfl
theorem sc22 : scalarB Try.prog 22 = true := by kernel_rfl
theorem sc24 : scalarB Try.prog 24 = true := by kernel_rfl
theorem sc5 : scalarB Try.prog 5 = true := by kernel_rfl
theorem sz24_1 : sizeB Try.prog 24 1 = true := by kernel_rfl
theorem sz5_1 : sizeB Try.prog 5 1 = true := by kernel_rfl

end T6
open T6

set_option maxRecDepth 100000 in
set_option maxHeartbeats 2000000 in
theorem c_from12 (w : World) (t c n : Nat) (f : Nat → Int) (hn : 2 ≤ n ∧ n ≤ 300) (hv : ∀ i, 2 ≤ i → i < n → 0 ≤ f i ∧ f i ≤ 4095) (hfn : f n = 0) (q cap k1 k2 : Nat) (Z : List UInt8) (hcap : ((n * 3 + 1) / 2) ≤ cap) (hq : w.heap[q]? = some (.cells (Bs (b12 ((n * 3 + 1) / 2) f (n + 1) ++ Z)).toArray 5 (k1, k2))) (hd : t ≠ c ∧ t ≠ q ∧ c ≠ q) (ht : w.heap[t]? = some (.cells ([.int .u32 (4088), .int .u32 4095, .int .u32 0, .slice (some ⟨c, 0, none⟩) (n + 1) (n + 1), .int .u32 ((n : Nat) : Int), .int .u32 ((((n * 3 + 1) / 2) : Nat) : Int)] : List Value).toArray 52 (0, 0))) (hc : w.heap[c]? = some (.cells (clR .u32 (n + 1) (fun _ => 0)).toArray 24 (0, 0))) : Calls Try.prog 37 #[.pointer (some ⟨t, 0, none⟩), .slice (some ⟨q, 0, none⟩) ((n * 3 + 1) / 2) cap] w (Ret fun v w' => v = .tuple #[] ∧ ∃ id, SH w [t, c] w' [⟨t, .cells ([.int .u32 (id), .int .u32 4095, .int .u32 0, .slice (some ⟨c, 0, none⟩) (n + 1) (n + 1), .int .u32 ((n : Nat) : Int), .int .u32 ((((n * 3 + 1) / 2) : Nat) : Int)] : List Value).toArray 52 (0, 0), true⟩, ⟨c, .cells (clR .u32 (n + 1) (gI f n)).toArray 24 (0, 0), true⟩]) := by
  refine enter (fun _ => .tuple #[]) Try.func37 rfl rfl rfl (res0 rfl) ?_
  have H : SH w [t, c] w [⟨t, .cells ([.int .u32 (4088), .int .u32 4095, .int .u32 0, .slice (some ⟨c, 0, none⟩) (n + 1) (n + 1), .int .u32 ((n : Nat) : Int), .int .u32 ((((n * 3 + 1) / 2) : Nat) : Int)] : List Value).toArray 52 (0, 0), true⟩, ⟨c, .cells (clR .u32 (n + 1) (fun _ => 0)).toArray 24 (0, 0), true⟩, ⟨q, .cells (Bs (b12 ((n * 3 + 1) / 2) f (n + 1) ++ Z)).toArray 5 (k1, k2), false⟩] := SH.init _ _ (by simp [ht, hc, hq]) (by simp [hd.1, hd.2.1, hd.2.2]) (by simp)
  have hbl := b12_len ((n * 3 + 1) / 2) f (n + 1)
  refine sq ?_
  refine rg ?_
  refine mv (v := .slice _ _ _) rfl rfl ?_
  refine lnS rfl Try.underlying36 rfl ?_
  refine mul rfl rfl (by first | exact w_i64 (by omega) | exact w_i64 (rng_i64 _) | rfl) rfl ?_
  refine quo (c := (n : Int)) rfl rfl (by omega) (by omega) (by rw [w_i64 (by omega)]; omega) rfl ?_
  refine cvi rfl rfl Try.underlying24 (by first | exact w_u32 (by omega) | exact w_u32 (rng_u32 _) | exact m_u32 _) rfl ?_
  refine sub (c := ((n - 1 : Nat) : Int)) rfl rfl (by rw [w_u32 (by omega)]; omega) rfl ?_
  refine asg (v := .int .u32 _) rfl rfl ?_
  refine nl ?_
  refine then_n ?_
  refine sq ?_
  refine sq ?_
  refine rg ?_
  refine mv (v := .int .u32 _) rfl rfl ?_
  refine mv (v := .pointer _) rfl rfl ?_
  first | refine nc rfl rfl ?_ | refine nci rfl rfl ?_
  refine fa rfl fo52_4 rfl ?_
  first | refine ld H rfl sc24 rfl rfl ?_ | refine lc rfl (by first | assumption | exact H.fr.cell (by assumption) (by simp)) sc24 rfl ?_ | refine ld H rfl sc24 (by assumption) rfl ?_
  refine gtr rfl rfl rfl ?_
  refine nl ?_
  refine then_n ?_
  first | refine cF rfl (by omega) ?_ | refine cbF rfl (by omega) ?_   -- test 1
  refine sk ?_
  refine then_n ?_
  refine sq ?_
  refine sq ?_
  refine rg ?_
  refine asg (v := .int .u32 _) rfl rfl ?_
  refine nl ?_
  refine then_n ?_
  refine bk ?_
  refine lpM (α := Nat) [5, 22, 23, 24, 25, 26, 27, 28, 29, 30, 31, 32, 33, 34, 35] (fun i => [(5, .int .u32 (i : Int))]) (fun i w' => (2 ≤ i ∧ i ≤ n) ∧ SH w [t, c] w' [⟨t, .cells ([.int .u32 (4088), .int .u32 4095, .int .u32 0, .slice (some ⟨c, 0, none⟩) (n + 1) (n + 1), .int .u32 ((n : Nat) : Int), .int .u32 ((((n * 3 + 1) / 2) : Nat) : Int)] : List Value).toArray 52 (0, 0), true⟩, ⟨c, .cells (clR .u32 (n + 1) (gI f (i))).toArray 24 (0, 0), true⟩, ⟨q, .cells (Bs (b12 ((n * 3 + 1) / 2) f (n + 1) ++ Z)).toArray 5 (k1, k2), false⟩]) (fun i => n - i) 2 ?_ (fC (by first | rfl | exact congrArg (Value.int _) (by first | omega | assumption | (symm; assumption) | (simp; done) | (simp; omega)) | exact congrArg (fun n => Value.slice _ n _) (by first | omega | (simp; done) | (simp; omega))) (fN _)) ?_   -- loop 1
  · exact ⟨⟨by omega, by omega⟩, by rw [gI_zero]; exact H⟩
  · rintro i ρx w1 ⟨hi, H⟩
    refine sq ?_
    refine sq ?_
    refine rg ?_
    refine mv (v := .int .u32 _) rfl rfl ?_
    refine mv (v := .int .u32 _) rfl rfl ?_
    refine leq rfl rfl rfl ?_
    refine nl ?_
    refine then_n ?_
    first | refine cd rfl (fun hc2 => ?_) (fun hc2 => ?_) | refine cn rfl (fun hc2 => ?_) (fun hc2 => ?_)   -- test 2
    · have hvi := hv i hi.1 (by omega)
      refine sk ?_
      refine then_n ?_
      refine sq ?_
      refine bk ?_
      refine dr (by kernel_rfl) ?_   -- region 6
      have H := H.drew
      refine hold (fun _ => True) [] ?_
      refine tk (i := 0) rfl (by kernel_rfl) rfl trivial (fun _ _ => r_mv (v := .pointer _) rfl) ?_
      first | refine tk (i := 1) rfl (by kernel_rfl) rfl trivial (fun _ _ => r_nc rfl) ?_ | refine tk (i := 1) rfl (by kernel_rfl) rfl trivial (fun _ _ => r_nci rfl) ?_
      refine tk (i := 2) rfl (by kernel_rfl) rfl trivial (fun _ _ => r_fa rfl fo52_3) ?_
      refine tk (i := 4) rfl (by kernel_rfl) rfl trivial (fun _ _ => r_mv (v := .int .u32 _) rfl) ?_
      refine tk (i := 5) rfl (by kernel_rfl) rfl trivial (fun _ _ => r_mv (v := .slice _ _ _) rfl) ?_
      refine tk (i := 6) rfl (by kernel_rfl) rfl trivial (fun _ _ => r_mv (v := .int .u32 _) rfl) ?_
      refine unfree ?_
      refine holdH H [9] ?_
      first | refine tk (i := 3) rfl (by kernel_rfl) rfl H (fun w' H => r_ld H rfl sc22 rfl) ?_ | refine tk (i := 3) rfl (by kernel_rfl) rfl H (fun w' H => r_lc rfl (by first | assumption | exact H.fr.cell (by assumption) (by simp)) sc22) ?_ | refine tk (i := 3) rfl (by kernel_rfl) rfl H (fun w' H => r_ld H rfl sc22 (by assumption)) ?_
      refine fk (i := 7) (by kernel_rfl) rfl rfl rfl ?_
      refine cl ca45 (c_r12 _ q ((n * 3 + 1) / 2) i (n + 1) cap _ _ f Z hi.1 (by omega) hcap (by omega) (by omega) hvi (H.look (b := q))) rfl ?_
      rintro _ w2 ⟨rfl, F⟩
      replace H := H.keep F; clear F
      refine nl ?_
      refine then_n ?_
      refine ⟨H, ?_⟩
      refine tk (i := 8) rfl (by kernel_rfl) rfl H (fun w' H => r_iaN (i) rfl rfl Try.underlying22 sz24_1 (by omega) (by omega)) ?_
      refine fb (i := 9) (by kernel_rfl) rfl rfl rfl ?_
      refine st (v := .int .u32 (f i)) H rfl rfl sc24 rfl (by rw [clR_len]; omega) (by omega) ?_
      clear H; intro w9 H F9
      rw [clR_set, gI_next hi.1] at H
      refine nl ?_
      refine then_n ?_
      refine dn (by kernel_rfl) ?_
      refine in_n ?_
      refine then_n ?_
      refine rg ?_
      refine mv (v := .int .u32 _) rfl rfl ?_
      refine add rfl rfl (by first | exact w_u32 (by omega) | exact w_u32 (rng_u32 _) | exact m_u32 _) rfl ?_
      refine asg (v := .int .u32 _) rfl rfl ?_
      refine nl ?_
      refine loop_n ?_
      exact ⟨i + 1, (by (try dsimp only); omega), ⟨by omega, H⟩, (fC (by first | rfl | exact congrArg (Value.int _) (by first | omega | assumption | (symm; assumption) | (simp; done) | (simp; omega)) | exact congrArg (fun n => Value.slice _ n _) (by first | omega | (simp; done) | (simp; omega))) (fN _)), (by repeat (first | exact Agree.setL rfl Agree.mask | exact Agree.self _ _ | refine Agree.upd rfl ?_ | refine Agree.setL rfl ?_ | refine Agree.mask2 rfl ?_))⟩
    · obtain rfl : i = n := by omega
      refine ex ?_
      refine then_e ?_
      refine loop_e ?_
      refine in_hit rfl ?_
      refine then_n ?_
      refine sq ?_
      refine rg ?_
      refine mv (v := .slice _ _ _) rfl rfl ?_
      refine lnS rfl Try.underlying36 rfl ?_
      refine geq rfl rfl rfl ?_
      refine nl ?_
      refine then_n ?_
      first | refine cT rfl (by omega) ?_ | refine cbT rfl (by omega) ?_   -- test 3
      refine rg ?_
      refine mv (v := .pointer _) rfl rfl ?_
      refine mv (v := .slice _ _ _) rfl rfl ?_
      refine iaN (0) rfl rfl Try.underlying36 sz5_1 (by omega) (by omega) rfl ?_
      refine ldb H rfl sc5 (by rw [List.length_append, hbl]; omega) rfl ?_; intro hu1
      refine cvi rfl rfl Try.underlying24 (by first | exact w_u32 (by omega) | exact w_u32 (rng_u32 _) | exact m_u32 _) rfl ?_
      refine bor rfl rfl rfl rfl ?_
      first | refine nc rfl rfl ?_ | refine nci rfl rfl ?_
      refine fa rfl fo52_0 rfl ?_
      refine st (v := .int .u32 _) H rfl rfl sc24 rfl (by first | decide | (simp only [List.length_set, List.length_cons, List.length_nil, List.length_replicate, List.length_append, Bs_length]; omega) | omega) (by omega) ?_
      clear H; intro w3 H _
      refine nl ?_
      refine fin_n ?_
      exact ⟨rfl, _, H.sub (by repeat (first | exact List.Sublist.refl _ | exact List.nil_sublist _ | apply List.Sublist.cons_cons | apply List.Sublist.cons))⟩

set_option maxRecDepth 100000 in
set_option maxHeartbeats 2000000 in
theorem c_from16 (w : World) (t c n : Nat) (f : Nat → Int) (hn : 2 ≤ n ∧ n ≤ 300) (hv : ∀ i, 2 ≤ i → i < n → 0 ≤ f i ∧ f i ≤ 65535) (q cap k1 k2 : Nat) (Z : List UInt8) (hcap : (n * 2) ≤ cap) (hq : w.heap[q]? = some (.cells (Bs (wB 2 n (fI 65528 65535 f n) ++ Z)).toArray 5 (k1, k2))) (hd : t ≠ c ∧ t ≠ q ∧ c ≠ q) (ht : w.heap[t]? = some (.cells ([.int .u32 (65528), .int .u32 65535, .slice (some ⟨c, 0, none⟩) (n + 1) (n + 1), .int .u32 ((n : Nat) : Int), .int .u32 (((n * 2) : Nat) : Int)] : List Value).toArray 54 (0, 0))) (hc : w.heap[c]? = some (.cells (clR .u32 (n + 1) (fun _ => 0)).toArray 24 (0, 0))) : Calls Try.prog 50 #[.pointer (some ⟨t, 0, none⟩), .slice (some ⟨q, 0, none⟩) (n * 2) cap] w (Ret fun v w' => v = .tuple #[] ∧ ∃ id, SH w [t, c] w' [⟨t, .cells ([.int .u32 (id), .int .u32 65535, .slice (some ⟨c, 0, none⟩) (n + 1) (n + 1), .int .u32 ((n : Nat) : Int), .int .u32 (((n * 2) : Nat) : Int)] : List Value).toArray 54 (0, 0), true⟩, ⟨c, .cells (clR .u32 (n + 1) (gI f n)).toArray 24 (0, 0), true⟩]) := by
  refine enter (fun _ => .tuple #[]) Try.func50 rfl rfl rfl (res0 rfl) ?_
  have H : SH w [t, c] w [⟨t, .cells ([.int .u32 (65528), .int .u32 65535, .slice (some ⟨c, 0, none⟩) (n + 1) (n + 1), .int .u32 ((n : Nat) : Int), .int .u32 (((n * 2) : Nat) : Int)] : List Value).toArray 54 (0, 0), true⟩, ⟨c, .cells (clR .u32 (n + 1) (fun _ => 0)).toArray 24 (0, 0), true⟩, ⟨q, .cells (Bs (wB 2 n (fI 65528 65535 f n) ++ Z)).toArray 5 (k1, k2), false⟩] := SH.init _ _ (by simp [ht, hc, hq]) (by simp [hd.1, hd.2.1, hd.2.2]) (by simp)
  have hbl := wB_len 2 (fI 65528 65535 f n) n
  have hle : (wB 2 n (fI 65528 65535 f n) ++ Z).length = n * 2 + Z.length := by rw [List.length_append, hbl]
  refine sq ?_
  refine sq ?_
  refine rg ?_
  refine asg (v := .int .u32 _) rfl rfl ?_
  refine nl ?_
  refine then_n ?_
  refine bk ?_
  refine lpM (α := Nat) [4, 5, 6, 7, 8, 9, 10, 11, 12, 13, 14, 15, 16, 17, 18, 19, 20, 21, 22, 23, 24, 25, 26, 27, 28, 29, 30, 31, 32, 33, 34, 35, 36, 37, 38, 39, 40, 41] (fun i => [(4, .int .u32 (i : Int))]) (fun i w' => (2 ≤ i ∧ i ≤ n) ∧ SH w [t, c] w' [⟨t, .cells ([.int .u32 (65528), .int .u32 65535, .slice (some ⟨c, 0, none⟩) (n + 1) (n + 1), .int .u32 ((n : Nat) : Int), .int .u32 (((n * 2) : Nat) : Int)] : List Value).toArray 54 (0, 0), true⟩, ⟨c, .cells (clR .u32 (n + 1) (gI f (i))).toArray 24 (0, 0), true⟩, ⟨q, .cells (Bs (wB 2 n (fI 65528 65535 f n) ++ Z)).toArray 5 (k1, k2), false⟩]) (fun i => n - i) 2 ?_ (fC (by first | rfl | exact congrArg (Value.int _) (by first | omega | assumption | (symm; assumption) | (simp; done) | (simp; omega)) | exact congrArg (fun n => Value.slice _ n _) (by first | omega | (simp; done) | (simp; omega))) (fN _)) ?_   -- loop 1
  · exact ⟨⟨by omega, by omega⟩, by rw [gI_zero]; exact H⟩
  · rintro i ρx w1 ⟨hi, H⟩
    refine sq ?_
    refine sq ?_
    refine rg ?_
    refine mv (v := .int .u32 _) rfl rfl ?_
    refine mv (v := .pointer _) rfl rfl ?_
    first | refine nc rfl rfl ?_ | refine nci rfl rfl ?_
    refine fa rfl fo54_3 rfl ?_
    first | refine ld H rfl sc24 rfl rfl ?_ | refine lc rfl (by first | assumption | exact H.fr.cell (by assumption) (by simp)) sc24 rfl ?_ | refine ld H rfl sc24 (by assumption) rfl ?_
    refine lss rfl rfl rfl ?_
    refine mv (v := .bool _) rfl rfl ?_
    first | refine spd (t := 12) rfl (fun hg1 => ?_) (fun hg1 => ?_) | refine sp (t := 12) rfl (fun hg1 => ?_) (fun hg1 => ?_)   -- guard 1
    · have hvi := hv i hi.1 (by omega)
      refine gy rfl ?_
      refine mv (v := .int .u32 _) rfl rfl ?_
      refine gy rfl ?_
      refine mul (c := ((i * 2 : Nat) : Int)) rfl rfl (by rw [w_u32 (by omega)]; omega) rfl ?_
      refine gy rfl ?_
      refine add (c := ((i * 2 + 2 : Nat) : Int)) rfl rfl (by rw [w_u32 (by omega)]; omega) rfl ?_
      refine gy rfl ?_
      refine mv (v := .slice _ _ _) rfl rfl ?_
      refine gy rfl ?_
      refine lnS rfl Try.underlying36 rfl ?_
      refine gy rfl ?_
      refine cvi rfl rfl Try.underlying24 (by first | exact w_u32 (by omega) | exact w_u32 (rng_u32 _) | exact m_u32 _) rfl ?_
      refine gy rfl ?_
      refine leq rfl rfl rfl ?_
      refine pkT (v := .bool _) rfl rfl rfl ?_
      refine nl ?_
      refine then_n ?_
      first | refine cT rfl (by omega) ?_ | refine cbT rfl (by omega) ?_   -- test 1
      refine sk ?_
      refine then_n ?_
      refine sq ?_
      refine bk ?_
      refine sq ?_
      refine dr (by kernel_rfl) ?_   -- region 3
      have H := H.drew
      refine hold (fun _ => True) [] ?_
      refine tk (i := 1) rfl (by kernel_rfl) rfl trivial (fun _ _ => r_mv (v := .slice _ _ _) rfl) ?_
      refine tk (i := 2) rfl (by kernel_rfl) rfl trivial (fun _ _ => r_mv (v := .int .u32 _) rfl) ?_
      refine tk (i := 3) rfl (by kernel_rfl) rfl trivial (fun _ _ => r_mul (c := ((i * 2 : Nat) : Int)) rfl rfl (by rw [w_u32 (by omega)]; omega)) ?_
      refine tk (i := 4) rfl (by kernel_rfl) rfl trivial (fun _ _ => r_mv (v := .int .u32 _) rfl) ?_
      refine tk (i := 5) rfl (by kernel_rfl) rfl trivial (fun _ _ => r_mul (c := ((i * 2 : Nat) : Int)) rfl rfl (by rw [w_u32 (by omega)]; omega)) ?_
      refine tk (i := 6) rfl (by kernel_rfl) rfl trivial (fun _ _ => r_add (c := ((i * 2 + 2 : Nat) : Int)) rfl rfl (by rw [w_u32 (by omega)]; omega)) ?_
      refine tk (i := 7) rfl (by kernel_rfl) rfl trivial (fun _ _ => r_sllhN (i * 2) (2) (cap - i * 2) rfl rfl rfl Try.underlying36 sz5_1 (by omega) (by omega)) ?_
      refine unfree ?_
      refine holdH H [] ?_
      refine tk (i := 0) rfl (by kernel_rfl) rfl H (fun w' H => r_lw (vs := []) rfl ag75_0 rfl (by simp)) ?_
      refine fk (i := 8) (by kernel_rfl) rfl rfl rfl ?_
      refine cl ca58 (c_uint16 _ _ _ _ _ (RB.of (b := q) (o := i * 2) (n := 2) H (by omega)) rfl) rfl ?_
      rintro _ w2 ⟨rfl, F⟩
      replace H := H.keep F; clear F
      rw [show leV (((wB 2 n (fI 65528 65535 f n) ++ Z).drop (i * 2)).take 2) = f i from (wB_read (by decide) (by omega) (by rw [fI_at hi.1 (by omega)]; omega)).trans (fI_at hi.1 (by omega))]
      refine nl ?_
      refine then_n ?_
      refine ⟨H, ?_⟩
      refine tk (i := 9) rfl (by kernel_rfl) rfl H (fun w' H => r_cvi rfl rfl Try.underlying24 (by first | exact w_u32 (by omega) | exact w_u32 (rng_u32 _) | exact m_u32 _)) ?_
      refine tk (i := 10) rfl (by kernel_rfl) rfl H (fun w' H => r_asg (v := .int .u32 _) rfl) ?_
      refine da (by kernel_rfl) ?_
      refine then_n ?_
      refine sq ?_
      refine rg ?_
      refine mv (v := .int .u32 _) rfl rfl ?_
      refine neq rfl rfl rfl ?_
      refine nl ?_
      refine then_n ?_
      first | refine cd rfl (fun hc2 => ?_) (fun hc2 => ?_) | refine cn rfl (fun hc2 => ?_) (fun hc2 => ?_)   -- test 2
      · refine rg ?_
        refine mv (v := .pointer _) rfl rfl ?_
        first | refine nc rfl rfl ?_ | refine nci rfl rfl ?_
        refine fa rfl fo54_2 rfl ?_
        first | refine ld H rfl sc22 rfl rfl ?_ | refine lc rfl (by first | assumption | exact H.fr.cell (by assumption) (by simp)) sc22 rfl ?_ | refine ld H rfl sc22 (by assumption) rfl ?_
        refine mv (v := .int .u32 _) rfl rfl ?_
        refine mv (v := .int .u32 _) rfl rfl ?_
        refine iaN (i) rfl rfl Try.underlying22 sz24_1 (by omega) (by omega) rfl ?_
        refine st (v := .int .u32 (f i)) H rfl rfl sc24 rfl (by rw [clR_len]; omega) (by omega) ?_
        clear H; intro w9 H F9
        rw [clR_set, gI_next hi.1] at H
        refine nl ?_
        refine in_n ?_
        refine then_n ?_
        refine rg ?_
        refine mv (v := .int .u32 _) rfl rfl ?_
        refine add rfl rfl (by first | exact w_u32 (by omega) | exact w_u32 (rng_u32 _) | exact m_u32 _) rfl ?_
        refine asg (v := .int .u32 _) rfl rfl ?_
        refine nl ?_
        refine loop_n ?_
        exact ⟨i + 1, (by (try dsimp only); omega), ⟨by omega, H⟩, (fC (by first | rfl | exact congrArg (Value.int _) (by first | omega | assumption | (symm; assumption) | (simp; done) | (simp; omega)) | exact congrArg (fun n => Value.slice _ n _) (by first | omega | (simp; done) | (simp; omega))) (fN _)), (by repeat (first | exact Agree.setL rfl Agree.mask | exact Agree.self _ _ | refine Agree.upd rfl ?_ | refine Agree.setL rfl ?_ | refine Agree.mask2 rfl ?_))⟩
      · refine sk ?_
        refine in_n ?_
        refine then_n ?_
        refine rg ?_
        refine mv (v := .int .u32 _) rfl rfl ?_
        refine add rfl rfl (by first | exact w_u32 (by omega) | exact w_u32 (rng_u32 _) | exact m_u32 _) rfl ?_
        refine asg (v := .int .u32 _) rfl rfl ?_
        refine nl ?_
        refine loop_n ?_
        exact ⟨i + 1, (by (try dsimp only); omega), ⟨by omega, by rw [← gI_same (by omega)]; exact H⟩, (fC (by first | rfl | exact congrArg (Value.int _) (by first | omega | assumption | (symm; assumption) | (simp; done) | (simp; omega)) | exact congrArg (fun n => Value.slice _ n _) (by first | omega | (simp; done) | (simp; omega))) (fN _)), (by repeat (first | exact Agree.setL rfl Agree.mask | exact Agree.self _ _ | refine Agree.upd rfl ?_ | refine Agree.setL rfl ?_ | refine Agree.mask2 rfl ?_))⟩
    · obtain rfl : i = n := by omega
      refine gn rfl rfl ?_
      refine gn rfl rfl ?_
      refine gn rfl rfl ?_
      refine gn rfl rfl ?_
      refine gn rfl rfl ?_
      refine gn rfl rfl ?_
      refine gn rfl rfl ?_
      refine pkF (v := .bool _) rfl rfl rfl ?_
      refine nl ?_
      refine then_n ?_
      refine cbF rfl rfl ?_
      refine ex ?_
      refine then_e ?_
      refine loop_e ?_
      refine in_hit rfl ?_
      refine then_n ?_
      refine sq ?_
      refine rg ?_
      refine mv (v := .slice _ _ _) rfl rfl ?_
      refine lnS rfl Try.underlying36 rfl ?_
      refine geq rfl rfl rfl ?_
      refine nl ?_
      refine then_n ?_
      first | refine cT rfl (by omega) ?_ | refine cbT rfl (by omega) ?_   -- test 3
      refine dr (by kernel_rfl) ?_   -- region 7
      have H := H.drew
      refine hold (fun _ => True) [] ?_
      refine tk (i := 0) rfl (by kernel_rfl) rfl trivial (fun _ _ => r_mv (v := .pointer _) rfl) ?_
      refine tk (i := 2) rfl (by kernel_rfl) rfl trivial (fun _ _ => r_mv (v := .slice _ _ _) rfl) ?_
      refine tk (i := 3) rfl (by kernel_rfl) rfl trivial (fun _ _ => r_sllhN (0) (2) (cap) rfl rfl rfl Try.underlying36 sz5_1 (by omega) (by omega)) ?_
      refine unfree ?_
      refine holdH H [8] ?_
      refine tk (i := 1) rfl (by kernel_rfl) rfl H (fun w' H => r_lw (vs := []) rfl ag75_0 rfl (by simp)) ?_
      refine fk (i := 4) (by kernel_rfl) rfl rfl rfl ?_
      refine cl ca58 (c_uint16 _ _ _ _ _ (RB.of (b := q) (o := 0) (n := 2) H (by omega)) rfl) rfl ?_
      rintro _ w3 ⟨rfl, F⟩
      replace H := H.keep F; clear F
      refine nl ?_
      refine then_n ?_
      refine ⟨H, ?_⟩
      refine tk (i := 5) rfl (by kernel_rfl) rfl H (fun w' H => r_cvi rfl rfl Try.underlying24 (m_u32 _)) ?_
      refine fk (i := 6) (by kernel_rfl) rfl rfl rfl ?_
      first | refine nc rfl rfl ?_ | refine nci rfl rfl ?_
      refine nl ?_
      refine then_n ?_
      refine ⟨H, ?_⟩
      refine tk (i := 7) rfl (by kernel_rfl) rfl H (fun w' H => r_fa rfl fo54_0) ?_
      refine fb (i := 8) (by kernel_rfl) rfl rfl rfl ?_
      refine st (v := .int .u32 _) H rfl rfl sc24 rfl (by first | decide | (simp only [List.length_set, List.length_cons, List.length_nil, List.length_replicate, List.length_append, Bs_length]; omega) | omega) (by omega) ?_
      clear H; intro w4 H _
      refine nl ?_
      refine then_n ?_
      refine dn (by kernel_rfl) ?_
      refine fin_n ?_
      exact ⟨rfl, _, H.sub (by repeat (first | exact List.Sublist.refl _ | exact List.nil_sublist _ | apply List.Sublist.cons_cons | apply List.Sublist.cons))⟩

set_option maxRecDepth 100000 in
set_option maxHeartbeats 2000000 in
theorem c_from32 (w : World) (t c n : Nat) (f : Nat → Int) (hn : 2 ≤ n ∧ n ≤ 300) (hv : ∀ i, 2 ≤ i → i < n → 0 ≤ f i ∧ f i ≤ 268435455) (q cap k1 k2 : Nat) (Z : List UInt8) (hcap : (n * 4) ≤ cap) (hq : w.heap[q]? = some (.cells (Bs (wB 4 n (fI 268435448 268435455 f n) ++ Z)).toArray 5 (k1, k2))) (hd : t ≠ c ∧ t ≠ q ∧ c ≠ q) (ht : w.heap[t]? = some (.cells ([.int .u32 (268435448), .int .u32 268435455, .int .u32 0, .slice (some ⟨c, 0, none⟩) (n + 1) (n + 1), .int .u32 2, .int .u32 (((n * 4) : Nat) : Int), .int .u32 ((n : Nat) : Int)] : List Value).toArray 50 (0, 0))) (hc : w.heap[c]? = some (.cells (clR .u32 (n + 1) (fun _ => 0)).toArray 24 (0, 0))) : Calls Try.prog 63 #[.pointer (some ⟨t, 0, none⟩), .slice (some ⟨q, 0, none⟩) (n * 4) cap] w (Ret fun v w' => v = .tuple #[] ∧ ∃ id, SH w [t, c] w' [⟨t, .cells ([.int .u32 (id), .int .u32 268435455, .int .u32 0, .slice (some ⟨c, 0, none⟩) (n + 1) (n + 1), .int .u32 2, .int .u32 (((n * 4) : Nat) : Int), .int .u32 ((n : Nat) : Int)] : List Value).toArray 50 (0, 0), true⟩, ⟨c, .cells (clR .u32 (n + 1) (gI f n)).toArray 24 (0, 0), true⟩]) := by
  refine enter (fun _ => .tuple #[]) Try.func63 rfl rfl rfl (res0 rfl) ?_
  have H : SH w [t, c] w [⟨t, .cells ([.int .u32 (268435448), .int .u32 268435455, .int .u32 0, .slice (some ⟨c, 0, none⟩) (n + 1) (n + 1), .int .u32 2, .int .u32 (((n * 4) : Nat) : Int), .int .u32 ((n : Nat) : Int)] : List Value).toArray 50 (0, 0), true⟩, ⟨c, .cells (clR .u32 (n + 1) (fun _ => 0)).toArray 24 (0, 0), true⟩, ⟨q, .cells (Bs (wB 4 n (fI 268435448 268435455 f n) ++ Z)).toArray 5 (k1, k2), false⟩] := SH.init _ _ (by simp [ht, hc, hq]) (by simp [hd.1, hd.2.1, hd.2.2]) (by simp)
  have hbl := wB_len 4 (fI 268435448 268435455 f n) n
  have hle : (wB 4 n (fI 268435448 268435455 f n) ++ Z).length = n * 4 + Z.length := by rw [List.length_append, hbl]
  refine sq ?_
  refine rg ?_
  refine asg (v := .int .u32 _) rfl rfl ?_
  refine nl ?_
  refine then_n ?_
  refine bk ?_
  refine lpM (α := Nat) [4, 5, 6, 7, 8, 9, 10, 11, 12, 13, 14, 15, 16, 17, 18, 19, 20, 21, 22, 23, 24, 25, 26, 27, 28, 29, 30, 31, 32] (fun i => [(4, .int .u32 (i : Int))]) (fun i w' => (2 ≤ i ∧ i ≤ n) ∧ SH w [t, c] w' [⟨t, .cells ([.int .u32 (268435448), .int .u32 268435455, .int .u32 0, .slice (some ⟨c, 0, none⟩) (n + 1) (n + 1), .int .u32 2, .int .u32 (((n * 4) : Nat) : Int), .int .u32 ((n : Nat) : Int)] : List Value).toArray 50 (0, 0), true⟩, ⟨c, .cells (clR .u32 (n + 1) (gI f (i))).toArray 24 (0, 0), true⟩, ⟨q, .cells (Bs (wB 4 n (fI 268435448 268435455 f n) ++ Z)).toArray 5 (k1, k2), false⟩]) (fun i => n - i) 2 ?_ (fC (by first | rfl | exact congrArg (Value.int _) (by first | omega | assumption | (symm; assumption) | (simp; done) | (simp; omega)) | exact congrArg (fun n => Value.slice _ n _) (by first | omega | (simp; done) | (simp; omega))) (fN _)) ?_   -- loop 1
  · exact ⟨⟨by omega, by omega⟩, by rw [gI_zero]; exact H⟩
  · rintro i ρx w1 ⟨hi, H⟩
    refine sq ?_
    refine sq ?_
    refine rg ?_
    refine mv (v := .int .u32 _) rfl rfl ?_
    refine mv (v := .pointer _) rfl rfl ?_
    first | refine nc rfl rfl ?_ | refine nci rfl rfl ?_
    refine fa rfl fo50_6 rfl ?_
    first | refine ld H rfl sc24 rfl rfl ?_ | refine lc rfl (by first | assumption | exact H.fr.cell (by assumption) (by simp)) sc24 rfl ?_ | refine ld H rfl sc24 (by assumption) rfl ?_
    refine lss rfl rfl rfl ?_
    refine nl ?_
    refine then_n ?_
    first | refine cd rfl (fun hc1 => ?_) (fun hc1 => ?_) | refine cn rfl (fun hc1 => ?_) (fun hc1 => ?_)   -- test 1
    · have hvi := hv i hi.1 (by omega)
      refine sk ?_
      refine then_n ?_
      refine sq ?_
      refine bk ?_
      refine sq ?_
      refine rg ?_
      refine mv (v := .int .u32 _) rfl rfl ?_
      refine mul (c := ((i * 4 : Nat) : Int)) rfl rfl (by rw [w_u32 (by omega)]; omega) rfl ?_
      refine asg (v := .int .u32 _) rfl rfl ?_
      refine nl ?_
      refine then_n ?_
      refine sq ?_
      refine dr (by kernel_rfl) ?_   -- region 4
      have H := H.drew
      refine hold (fun _ => True) [] ?_
      refine tk (i := 1) rfl (by kernel_rfl) rfl trivial (fun _ _ => r_mv (v := .slice _ _ _) rfl) ?_
      refine tk (i := 2) rfl (by kernel_rfl) rfl trivial (fun _ _ => r_mv (v := .int .u32 _) rfl) ?_
      refine tk (i := 3) rfl (by kernel_rfl) rfl trivial (fun _ _ => r_mv (v := .int .u32 _) rfl) ?_
      refine tk (i := 4) rfl (by kernel_rfl) rfl trivial (fun _ _ => r_add (c := ((i * 4 + 4 : Nat) : Int)) rfl rfl (by rw [w_u32 (by omega)]; omega)) ?_
      refine tk (i := 5) rfl (by kernel_rfl) rfl trivial (fun _ _ => r_sllhN (i * 4) (4) (cap - i * 4) rfl rfl rfl Try.underlying36 sz5_1 (by omega) (by omega)) ?_
      refine unfree ?_
      refine holdH H [] ?_
      refine tk (i := 0) rfl (by kernel_rfl) rfl H (fun w' H => r_lw (vs := []) rfl ag75_0 rfl (by simp)) ?_
      refine fk (i := 6) (by kernel_rfl) rfl rfl rfl ?_
      refine cl ca71 (c_uint32 _ _ _ _ _ (RB.of (b := q) (o := i * 4) (n := 4) H (by omega)) rfl) rfl ?_
      rintro _ w2 ⟨rfl, F⟩
      replace H := H.keep F; clear F
      rw [show leV (((wB 4 n (fI 268435448 268435455 f n) ++ Z).drop (i * 4)).take 4) = f i from (wB_read (by decide) (by omega) (by rw [fI_at hi.1 (by omega)]; omega)).trans (fI_at hi.1 (by omega))]
      refine nl ?_
      refine then_n ?_
      refine ⟨H, ?_⟩
      refine tk (i := 7) rfl (by kernel_rfl) rfl H (fun w' H => r_asg (v := .int .u32 _) rfl) ?_
      refine da (by kernel_rfl) ?_
      refine then_n ?_
      refine sq ?_
      refine rg ?_
      refine mv (v := .int .u32 _) rfl rfl ?_
      refine neq rfl rfl rfl ?_
      refine nl ?_
      refine then_n ?_
      first | refine cd rfl (fun hc2 => ?_) (fun hc2 => ?_) | refine cn rfl (fun hc2 => ?_) (fun hc2 => ?_)   -- test 2
      · refine rg ?_
        refine mv (v := .pointer _) rfl rfl ?_
        first | refine nc rfl rfl ?_ | refine nci rfl rfl ?_
        refine fa rfl fo50_3 rfl ?_
        first | refine ld H rfl sc22 rfl rfl ?_ | refine lc rfl (by first | assumption | exact H.fr.cell (by assumption) (by simp)) sc22 rfl ?_ | refine ld H rfl sc22 (by assumption) rfl ?_
        refine mv (v := .int .u32 _) rfl rfl ?_
        refine mv (v := .int .u32 _) rfl rfl ?_
        refine iaN (i) rfl rfl Try.underlying22 sz24_1 (by omega) (by omega) rfl ?_
        refine st (v := .int .u32 (f i)) H rfl rfl sc24 rfl (by rw [clR_len]; omega) (by omega) ?_
        clear H; intro w9 H F9
        rw [clR_set, gI_next hi.1] at H
        refine nl ?_
        refine in_n ?_
        refine then_n ?_
        refine rg ?_
        refine mv (v := .int .u32 _) rfl rfl ?_
        refine add rfl rfl (by first | exact w_u32 (by omega) | exact w_u32 (rng_u32 _) | exact m_u32 _) rfl ?_
        refine asg (v := .int .u32 _) rfl rfl ?_
        refine nl ?_
        refine loop_n ?_
        exact ⟨i + 1, (by (try dsimp only); omega), ⟨by omega, H⟩, (fC (by first | rfl | exact congrArg (Value.int _) (by first | omega | assumption | (symm; assumption) | (simp; done) | (simp; omega)) | exact congrArg (fun n => Value.slice _ n _) (by first | omega | (simp; done) | (simp; omega))) (fN _)), (by repeat (first | exact Agree.setL rfl Agree.mask | exact Agree.self _ _ | refine Agree.upd rfl ?_ | refine Agree.setL rfl ?_ | refine Agree.mask2 rfl ?_))⟩
      · refine sk ?_
        refine in_n ?_
        refine then_n ?_
        refine rg ?_
        refine mv (v := .int .u32 _) rfl rfl ?_
        refine add rfl rfl (by first | exact w_u32 (by omega) | exact w_u32 (rng_u32 _) | exact m_u32 _) rfl ?_
        refine asg (v := .int .u32 _) rfl rfl ?_
        refine nl ?_
        refine loop_n ?_
        exact ⟨i + 1, (by (try dsimp only); omega), ⟨by omega, by rw [← gI_same (by omega)]; exact H⟩, (fC (by first | rfl | exact congrArg (Value.int _) (by first | omega | assumption | (symm; assumption) | (simp; done) | (simp; omega)) | exact congrArg (fun n => Value.slice _ n _) (by first | omega | (simp; done) | (simp; omega))) (fN _)), (by repeat (first | exact Agree.setL rfl Agree.mask | exact Agree.self _ _ | refine Agree.upd rfl ?_ | refine Agree.setL rfl ?_ | refine Agree.mask2 rfl ?_))⟩
    · obtain rfl : i = n := by omega
      refine ex ?_
      refine then_e ?_
      refine loop_e ?_
      refine in_hit rfl ?_
      refine fin_n ?_
      exact ⟨rfl, _, H.sub (by repeat (first | exact List.Sublist.refl _ | exact List.nil_sublist _ | apply List.Sublist.cons_cons | apply List.Sublist.cons))⟩

end Go.Proofs.Ytgmkjndmjnbahaa.X
