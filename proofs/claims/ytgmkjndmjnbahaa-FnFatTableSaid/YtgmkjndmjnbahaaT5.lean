/- Walks of functions, printed by a program of this claim. -/
import Derived.Test.YtgmkjndmjnbahaaT4
namespace Go.Proofs.Ytgmkjndmjnbahaa.X
set_option linter.unusedVariables false
set_option linter.unusedSimpArgs false
open Go Go.RowKit

namespace T5
theorem ag75_0 : aggB Try.prog 75 0 = true := by kernel_rfl
theorem ca44 : callable Try.prog 44 = true := by kernel_rfl
theorem ca57 : callable Try.prog 57 = true := by kernel_rfl
theorem ca70 : callable Try.prog 70 = true := by kernel_rfl
theorem fo50_0 : fieldOff Try.prog 50 0 = some 0 := by kernel_rfl
theorem fo50_1 : fieldOff Try.prog 50 1 = some 1 := by kernel_rfl
theorem fo50_3 : fieldOff Try.prog 50 3 = some 3 := by kernel_rfl
theorem fo50_5 : fieldOff Try.prog 50 5 = some 5 := by kernel_rfl
theorem fo50_6 : fieldOff Try.prog 50 6 = some 6 := by kernel_rfl
theorem fo52_0 : fieldOff Try.prog 52 0 = some 0 := by kernel_rfl
theorem fo52_3 : fieldOff Try.prog 52 3 = some 3 := by kernel_rfl
theorem fo52_4 : fieldOff Try.prog 52 4 = some 4 := by kernel_rfl
theorem fo52_5 : fieldOff Try.prog 52 5 = some 5 := by kernel_rfl
theorem fo54_0 : fieldOff Try.prog 54 0 = some 0 := by kernel_rfl
theorem fo54_1 : fieldOff Try.prog 54 1 = some 1 := by kernel_rfl
theorem fo54_2 : fieldOff Try.prog 54 2 = some 2 := by kernel_rfl
theorem fo54_3 : fieldOff Try.prog 54 3 = some 3 := by kernel_rfl
theorem fo54_4 : fieldOff Try.prog 54 4 = some 4 := by kernel_rfl
theorem mi5 : elemInfo Try.prog 5 = some (.int .u8 0, 1) := by kernel_rfl
theorem sc22 : scalarB Try.prog 22 = true := by kernel_rfl
theorem sc24 : scalarB Try.prog 24 = true := by kernel_rfl
theorem sc5 : scalarB Try.prog 5 = true := by kernel_rfl
theorem sz24_1 : sizeB Try.prog 24 1 = true := by kernel_rfl
theorem sz5_1 : sizeB Try.prog 5 1 = true := by kernel_rfl

end T5
open T5

set_option maxRecDepth 100000 in
set_option maxHeartbeats 2000000 in
theorem c_bytes12 (w : World) (t c n : Nat) (f : Nat → Int) (hn : 2 ≤ n ∧ n ≤ 300) (hv : ∀ i, 2 ≤ i → i < n → 0 ≤ f i ∧ f i ≤ 4095) (hfn : f n = 0) (ht : w.heap[t]? = some (.cells ([.int .u32 (4088), .int .u32 4095, .int .u32 0, .slice (some ⟨c, 0, none⟩) (n + 1) (n + 1), .int .u32 ((n : Nat) : Int), .int .u32 ((((n * 3 + 1) / 2) : Nat) : Int)] : List Value).toArray 52 (0, 0))) (hc : w.heap[c]? = some (.cells (clR .u32 (n + 1) (f)).toArray 24 (0, 0))) : Calls Try.prog 33 #[.pointer (some ⟨t, 0, none⟩)] w (Ret fun v w' => ∃ q, v = .slice (some ⟨q, 0, none⟩) ((n * 3 + 1) / 2) ((n * 3 + 1) / 2) ∧ SH w [] w' [⟨q, .cells (Bs (b12 ((n * 3 + 1) / 2) f (n + 1))).toArray 5 (0, 0), true⟩]) := by
  refine enter (fun ρ => ρ 2) Try.func33 rfl rfl rfl (res1 rfl) ?_
  have H := SH.ro2 ht hc
  refine sq ?_
  refine rg ?_
  refine asg (v := .slice _ _ _) rfl rfl ?_
  refine nl ?_
  refine then_n ?_
  refine sq ?_
  refine rg ?_
  refine mv (v := .pointer _) rfl rfl ?_
  first | refine nc rfl rfl ?_ | refine nci rfl rfl ?_
  refine fa rfl fo52_5 rfl ?_
  first | refine ld H rfl sc24 rfl rfl ?_ | refine lc rfl (by first | assumption | exact H.fr.cell (by assumption) (by simp)) sc24 rfl ?_ | refine ld H rfl sc24 (by assumption) rfl ?_
  refine mkB H rfl rfl Try.underlying36 mi5 (by omega) (by omega) (by omega) (by omega) rfl ?_
  clear H; intro q w1 hq1 H _
  refine asg (v := .slice _ _ _) rfl rfl ?_
  refine nl ?_
  refine then_n ?_
  refine sq ?_
  refine rg ?_
  refine mv (v := .pointer _) rfl rfl ?_
  first | refine nc rfl rfl ?_ | refine nci rfl rfl ?_
  refine fa rfl fo52_0 rfl ?_
  first | refine ld H rfl sc24 rfl rfl ?_ | refine lc rfl (by first | assumption | exact H.fr.cell (by assumption) (by simp)) sc24 rfl ?_ | refine ld H rfl sc24 (by assumption) rfl ?_
  refine band (c := 248) rfl rfl (by decide) rfl ?_
  refine cvi rfl rfl Try.underlying5 (by first | exact w_u8 (by omega) | exact w_u8 (rng_u8 _) | exact m_u8 _) rfl ?_
  refine asg (v := .int .u8 _) rfl rfl ?_
  refine nl ?_
  refine then_n ?_
  refine sq ?_
  refine rg ?_
  refine mv (v := .slice _ _ _) rfl rfl ?_
  refine mv (v := .int .u8 _) rfl rfl ?_
  refine iaN (0) rfl rfl Try.underlying36 sz5_1 (by omega) (by omega) rfl ?_
  refine stb (o := 0) (a := 248) H rfl rfl sc5 (by decide) (by simp only [List.length_set, List.length_replicate]; omega) (by omega) ?_
  clear H; intro w11 H _
  refine nl ?_
  refine then_n ?_
  refine sq ?_
  refine rg ?_
  refine mv (v := .slice _ _ _) rfl rfl ?_
  refine iaN (1) rfl rfl Try.underlying36 sz5_1 (by omega) (by omega) rfl ?_
  refine stb (o := 1) (a := 255) H rfl rfl sc5 (by decide) (by simp only [List.length_set, List.length_replicate]; omega) (by omega) ?_
  clear H; intro w12 H _
  refine nl ?_
  refine then_n ?_
  refine sq ?_
  refine rg ?_
  refine mv (v := .slice _ _ _) rfl rfl ?_
  refine iaN (2) rfl rfl Try.underlying36 sz5_1 (by omega) (by omega) rfl ?_
  refine stb (o := 2) (a := 15) H rfl rfl sc5 (by decide) (by simp only [List.length_set, List.length_replicate]; omega) (by omega) ?_
  clear H; intro w13 H _
  refine nl ?_
  refine then_n ?_
  refine sq ?_
  refine rg ?_
  refine mv (v := .slice _ _ _) rfl rfl ?_
  refine mv (v := .int .u8 _) rfl rfl ?_
  refine iaN (0) rfl rfl Try.underlying36 sz5_1 (by omega) (by omega) rfl ?_
  refine stb (o := 0) (a := 248) H rfl rfl sc5 (by decide) (by simp only [List.length_set, List.length_replicate]; omega) (by omega) ?_
  clear H; intro w14 H _
  refine nl ?_
  refine then_n ?_
  refine sq ?_
  refine rg ?_
  refine mv (v := .slice _ _ _) rfl rfl ?_
  refine iaN (1) rfl rfl Try.underlying36 sz5_1 (by omega) (by omega) rfl ?_
  refine stb (o := 1) (a := 255) H rfl rfl sc5 (by decide) (by simp only [List.length_set, List.length_replicate]; omega) (by omega) ?_
  clear H; intro w15 H _
  refine nl ?_
  refine then_n ?_
  refine sq ?_
  refine rg ?_
  refine mv (v := .slice _ _ _) rfl rfl ?_
  refine iaN (2) rfl rfl Try.underlying36 sz5_1 (by omega) (by omega) rfl ?_
  refine stb (o := 2) (a := 255) H rfl rfl sc5 (by decide) (by simp only [List.length_set, List.length_replicate]; omega) (by omega) ?_
  clear H; intro w16 H _
  replace H := sh_cells0 H (congrArg Bs (show _ = b12 ((n * 3 + 1) / 2) f 2 from b12_head6 (by omega) f))
  refine nl ?_
  refine then_n ?_
  refine sq ?_
  refine sq ?_
  refine rg ?_
  refine asg (v := .int .u32 _) rfl rfl ?_
  refine nl ?_
  refine then_n ?_
  refine bk ?_
  refine lpM (α := Nat) [5, 31, 32, 33, 34, 35, 36, 37, 38, 39, 40, 41, 42, 43, 44, 45, 46, 47, 48, 49, 50, 51, 52, 53, 54, 55, 56] (fun i => [(5, .int .u32 (i : Int))]) (fun i w' => (2 ≤ i ∧ i ≤ n + 1) ∧ SH w [] w' [⟨q, .cells (Bs (b12 ((n * 3 + 1) / 2) f (i))).toArray 5 (0, 0), true⟩, ⟨t, .cells ([.int .u32 (4088), .int .u32 4095, .int .u32 0, .slice (some ⟨c, 0, none⟩) (n + 1) (n + 1), .int .u32 ((n : Nat) : Int), .int .u32 ((((n * 3 + 1) / 2) : Nat) : Int)] : List Value).toArray 52 (0, 0), false⟩, ⟨c, .cells (clR .u32 (n + 1) (f)).toArray 24 (0, 0), false⟩]) (fun i => n + 1 - i) 2 ?_ (fC (by first | rfl | exact congrArg (Value.int _) (by first | omega | assumption | (symm; assumption) | (simp; done) | (simp; omega)) | exact congrArg (fun n => Value.slice _ n _) (by first | omega | (simp; done) | (simp; omega))) (fN _)) ?_   -- loop 1
  · exact ⟨⟨by omega, by omega⟩, H⟩
  · rintro i ρx w1 ⟨hi, H⟩
    refine sq ?_
    refine sq ?_
    refine rg ?_
    refine mv (v := .int .u32 _) rfl rfl ?_
    refine mv (v := .pointer _) rfl rfl ?_
    first | refine nc rfl rfl ?_ | refine nci rfl rfl ?_
    refine fa rfl fo52_4 rfl ?_
    first | refine ld H rfl sc24 rfl rfl ?_ | refine lc rfl (by first | assumption | exact H.fr.cell (by assumption) (by simp)) sc24 rfl ?_ | refine ld H rfl sc24 (by assumption) rfl ?_
    refine leq rfl rfl rfl ?_
    refine nl ?_
    refine then_n ?_
    first | refine cd rfl (fun hc1 => ?_) (fun hc1 => ?_) | refine cn rfl (fun hc1 => ?_) (fun hc1 => ?_)   -- test 1
    · refine sk ?_
      refine then_n ?_
      refine sq ?_
      refine bk ?_
      refine sq ?_
      refine rg ?_
      refine mv (v := .pointer _) rfl rfl ?_
      first | refine nc rfl rfl ?_ | refine nci rfl rfl ?_
      refine fa rfl fo52_3 rfl ?_
      first | refine ld H rfl sc22 rfl rfl ?_ | refine lc rfl (by first | assumption | exact H.fr.cell (by assumption) (by simp)) sc22 rfl ?_ | refine ld H rfl sc22 (by assumption) rfl ?_
      refine mv (v := .int .u32 _) rfl rfl ?_
      refine iaN (i) rfl rfl Try.underlying22 sz24_1 (by omega) (by omega) rfl ?_
      refine ld (v := .int .u32 (f i)) H rfl sc24 (clR_get (by omega)) rfl ?_
      refine neq rfl rfl rfl ?_
      refine nl ?_
      refine then_n ?_
      first | refine cd rfl (fun hc2 => ?_) (fun hc2 => ?_) | refine cn rfl (fun hc2 => ?_) (fun hc2 => ?_)   -- test 2
      · have hin : i < n := Classical.byContradiction fun h => by
          obtain rfl : i = n := by omega
          exact hc2 hfn
        have hvi := hv i hi.1 hin
        refine rg ?_
        refine mv (v := .slice _ _ _) rfl rfl ?_
        refine mv (v := .int .u32 _) rfl rfl ?_
        refine mv (v := .pointer _) rfl rfl ?_
        first | refine nc rfl rfl ?_ | refine nci rfl rfl ?_
        refine fa rfl fo52_3 rfl ?_
        first | refine ld H rfl sc22 rfl rfl ?_ | refine lc rfl (by first | assumption | exact H.fr.cell (by assumption) (by simp)) sc22 rfl ?_ | refine ld H rfl sc22 (by assumption) rfl ?_
        refine mv (v := .int .u32 _) rfl rfl ?_
        refine iaN (i) rfl rfl Try.underlying22 sz24_1 (by omega) (by omega) rfl ?_
        refine ld (v := .int .u32 (f i)) H rfl sc24 (clR_get (by omega)) rfl ?_
        refine cl ca44 (c_w12 _ q ((n * 3 + 1) / 2) i _ f hi.1 (by omega) (by omega) hvi (H.look (b := q))) rfl ?_
        rintro _ w2 ⟨rfl, F, hnew⟩
        replace H := H.put (b := q) F hnew; clear F hnew
        refine nl ?_
        refine in_n ?_
        refine then_n ?_
        refine rg ?_
        refine mv (v := .int .u32 _) rfl rfl ?_
        refine add rfl rfl (by first | exact w_u32 (by omega) | exact w_u32 (rng_u32 _) | exact m_u32 _) rfl ?_
        refine asg (v := .int .u32 _) rfl rfl ?_
        refine nl ?_
        refine loop_n ?_
        exact ⟨i + 1, (by (try dsimp only); omega), ⟨by omega, H⟩, (fC (by first | rfl | exact congrArg (Value.int _) (by first | omega | assumption | (symm; assumption) | (simp; done) | (simp; omega)) | exact congrArg (fun n => Value.slice _ n _) (by first | omega | (simp; done) | (simp; omega))) (fN _)), (by repeat (first | exact Agree.setL rfl Agree.mask | exact Agree.self _ _ | refine Agree.upd rfl ?_ | refine Agree.setL rfl ?_ | refine Agree.mask2 rfl ?_))⟩
      · have hf0 : f i = 0 := by omega
        refine sk ?_
        refine in_n ?_
        refine then_n ?_
        refine rg ?_
        refine mv (v := .int .u32 _) rfl rfl ?_
        refine add rfl rfl (by first | exact w_u32 (by omega) | exact w_u32 (rng_u32 _) | exact m_u32 _) rfl ?_
        refine asg (v := .int .u32 _) rfl rfl ?_
        refine nl ?_
        refine loop_n ?_
        exact ⟨i + 1, (by (try dsimp only); omega), ⟨by omega, by rw [b12_same hf0]; exact H⟩, (fC (by first | rfl | exact congrArg (Value.int _) (by first | omega | assumption | (symm; assumption) | (simp; done) | (simp; omega)) | exact congrArg (fun n => Value.slice _ n _) (by first | omega | (simp; done) | (simp; omega))) (fN _)), (by repeat (first | exact Agree.setL rfl Agree.mask | exact Agree.self _ _ | refine Agree.upd rfl ?_ | refine Agree.setL rfl ?_ | refine Agree.mask2 rfl ?_))⟩
    · refine ex ?_
      refine then_e ?_
      refine loop_e ?_
      refine in_hit rfl ?_
      refine then_n ?_
      refine sq ?_
      refine rg ?_
      refine mv (v := .slice _ _ _) rfl rfl ?_
      refine asg (v := .slice _ _ _) rfl rfl ?_
      refine nl ?_
      refine then_n ?_
      refine rt ?_
      refine fin_r ?_
      obtain rfl : i = n + 1 := by omega
      exact ⟨q, rfl, H.sub (by repeat (first | exact List.Sublist.refl _ | exact List.nil_sublist _ | apply List.Sublist.cons_cons | apply List.Sublist.cons))⟩

set_option maxRecDepth 100000 in
set_option maxHeartbeats 2000000 in
theorem c_bytes16 (w : World) (t c n : Nat) (f : Nat → Int) (hn : 2 ≤ n ∧ n ≤ 300) (hv : ∀ i, 2 ≤ i → i < n → 0 ≤ f i ∧ f i ≤ 65535) (ht : w.heap[t]? = some (.cells ([.int .u32 (65528), .int .u32 65535, .slice (some ⟨c, 0, none⟩) (n + 1) (n + 1), .int .u32 ((n : Nat) : Int), .int .u32 (((n * 2) : Nat) : Int)] : List Value).toArray 54 (0, 0))) (hc : w.heap[c]? = some (.cells (clR .u32 (n + 1) (f)).toArray 24 (0, 0))) : Calls Try.prog 46 #[.pointer (some ⟨t, 0, none⟩)] w (Ret fun v w' => ∃ q, v = .slice (some ⟨q, 0, none⟩) (n * 2) (n * 2) ∧ SH w [] w' [⟨q, .cells (Bs (wB 2 n (fI 65528 65535 f n))).toArray 5 (0, 0), true⟩]) := by
  refine enter (fun ρ => ρ 2) Try.func46 rfl rfl rfl (res1 rfl) ?_
  have H := SH.ro2 ht hc
  refine sq ?_
  refine rg ?_
  refine asg (v := .slice _ _ _) rfl rfl ?_
  refine nl ?_
  refine then_n ?_
  refine sq ?_
  refine rg ?_
  refine mv (v := .pointer _) rfl rfl ?_
  first | refine nc rfl rfl ?_ | refine nci rfl rfl ?_
  refine fa rfl fo54_4 rfl ?_
  first | refine ld H rfl sc24 rfl rfl ?_ | refine lc rfl (by first | assumption | exact H.fr.cell (by assumption) (by simp)) sc24 rfl ?_ | refine ld H rfl sc24 (by assumption) rfl ?_
  refine mkB H rfl rfl Try.underlying36 mi5 (by omega) (by omega) (by omega) (by omega) rfl ?_
  clear H; intro q w1 hq1 H _
  refine asg (v := .slice _ _ _) rfl rfl ?_
  refine nl ?_
  refine then_n ?_
  refine sq ?_
  refine dr (by kernel_rfl) ?_   -- region 2
  have H := H.drew
  refine hold (fun w' => SH w [] w' [⟨t, .cells ([.int .u32 (65528), .int .u32 65535, .slice (some ⟨c, 0, none⟩) (n + 1) (n + 1), .int .u32 ((n : Nat) : Int), .int .u32 (((n * 2) : Nat) : Int)] : List Value).toArray 54 (0, 0), false⟩, ⟨c, .cells (clR .u32 (n + 1) (f)).toArray 24 (0, 0), false⟩]) [] ?_
  refine tk (i := 0) rfl (by kernel_rfl) rfl (H.sub (by repeat (first | exact List.Sublist.refl _ | exact List.nil_sublist _ | apply List.Sublist.cons_cons | apply List.Sublist.cons))) (fun w' H => r_lw (vs := []) rfl ag75_0 rfl (by simp)) ?_
  refine tk (i := 1) rfl (by kernel_rfl) rfl (H.sub (by repeat (first | exact List.Sublist.refl _ | exact List.nil_sublist _ | apply List.Sublist.cons_cons | apply List.Sublist.cons))) (fun w' H => r_mv (v := .slice _ _ _) rfl) ?_
  refine tk (i := 2) rfl (by kernel_rfl) rfl (H.sub (by repeat (first | exact List.Sublist.refl _ | exact List.nil_sublist _ | apply List.Sublist.cons_cons | apply List.Sublist.cons))) (fun w' H => r_sllhN (0) (2) (n * 2) rfl rfl rfl Try.underlying36 sz5_1 (by omega) (by omega)) ?_
  refine tk (i := 3) rfl (by kernel_rfl) rfl (H.sub (by repeat (first | exact List.Sublist.refl _ | exact List.nil_sublist _ | apply List.Sublist.cons_cons | apply List.Sublist.cons))) (fun w' H => r_mv (v := .pointer _) rfl) ?_
  first | refine tk (i := 4) rfl (by kernel_rfl) rfl (H.sub (by repeat (first | exact List.Sublist.refl _ | exact List.nil_sublist _ | apply List.Sublist.cons_cons | apply List.Sublist.cons))) (fun w' H => r_nc rfl) ?_ | refine tk (i := 4) rfl (by kernel_rfl) rfl (H.sub (by repeat (first | exact List.Sublist.refl _ | exact List.nil_sublist _ | apply List.Sublist.cons_cons | apply List.Sublist.cons))) (fun w' H => r_nci rfl) ?_
  refine tk (i := 5) rfl (by kernel_rfl) rfl (H.sub (by repeat (first | exact List.Sublist.refl _ | exact List.nil_sublist _ | apply List.Sublist.cons_cons | apply List.Sublist.cons))) (fun w' H => r_fa rfl fo54_0) ?_
  first | refine tk (i := 6) rfl (by kernel_rfl) rfl (H.sub (by repeat (first | exact List.Sublist.refl _ | exact List.nil_sublist _ | apply List.Sublist.cons_cons | apply List.Sublist.cons))) (fun w' H => r_ld H rfl sc24 rfl) ?_ | refine tk (i := 6) rfl (by kernel_rfl) rfl (H.sub (by repeat (first | exact List.Sublist.refl _ | exact List.nil_sublist _ | apply List.Sublist.cons_cons | apply List.Sublist.cons))) (fun w' H => r_lc rfl (by first | assumption | exact H.fr.cell (by assumption) (by simp)) sc24) ?_ | refine tk (i := 6) rfl (by kernel_rfl) rfl (H.sub (by repeat (first | exact List.Sublist.refl _ | exact List.nil_sublist _ | apply List.Sublist.cons_cons | apply List.Sublist.cons))) (fun w' H => r_ld H rfl sc24 (by assumption)) ?_
  refine tk (i := 7) rfl (by kernel_rfl) rfl (H.sub (by repeat (first | exact List.Sublist.refl _ | exact List.nil_sublist _ | apply List.Sublist.cons_cons | apply List.Sublist.cons))) (fun w' H => r_cvi rfl rfl Try.underlying77 (by first | exact w_u16 (by omega) | exact w_u16 (rng_u16 _) | exact m_u16 _)) ?_
  refine fk (i := 8) (by kernel_rfl) rfl rfl rfl ?_
  refine cl ca57 (c_PutUint16 _ q (0) 2 _ (65528) _ (List.replicate (n * 2) 0) (H.look (b := q)) (by decide) (by first | (rw [List.length_replicate]; omega) | (rw [pAt_len (by rw [leB_len, List.length_replicate]; omega), List.length_replicate]; omega) | (rw [wB_len]; omega)) (by omega)) rfl ?_
  rintro _ w1 ⟨rfl, hpl, F, hnew⟩
  replace H := H.put (b := q) F hnew; clear F hnew
  refine nl ?_
  refine then_n ?_
  refine ⟨H.sub (by repeat (first | exact List.Sublist.refl _ | exact List.nil_sublist _ | apply List.Sublist.cons_cons | apply List.Sublist.cons)), ?_⟩
  refine da (by kernel_rfl) ?_
  refine then_n ?_
  refine sq ?_
  refine dr (by kernel_rfl) ?_   -- region 3
  have H := H.drew
  refine hold (fun w' => SH w [] w' [⟨t, .cells ([.int .u32 (65528), .int .u32 65535, .slice (some ⟨c, 0, none⟩) (n + 1) (n + 1), .int .u32 ((n : Nat) : Int), .int .u32 (((n * 2) : Nat) : Int)] : List Value).toArray 54 (0, 0), false⟩, ⟨c, .cells (clR .u32 (n + 1) (f)).toArray 24 (0, 0), false⟩]) [] ?_
  refine tk (i := 0) rfl (by kernel_rfl) rfl (H.sub (by repeat (first | exact List.Sublist.refl _ | exact List.nil_sublist _ | apply List.Sublist.cons_cons | apply List.Sublist.cons))) (fun w' H => r_lw (vs := []) rfl ag75_0 rfl (by simp)) ?_
  refine tk (i := 1) rfl (by kernel_rfl) rfl (H.sub (by repeat (first | exact List.Sublist.refl _ | exact List.nil_sublist _ | apply List.Sublist.cons_cons | apply List.Sublist.cons))) (fun w' H => r_mv (v := .slice _ _ _) rfl) ?_
  refine tk (i := 2) rfl (by kernel_rfl) rfl (H.sub (by repeat (first | exact List.Sublist.refl _ | exact List.nil_sublist _ | apply List.Sublist.cons_cons | apply List.Sublist.cons))) (fun w' H => r_sllhN (2) (2) (n * 2 - 2) rfl rfl rfl Try.underlying36 sz5_1 (by omega) (by omega)) ?_
  refine tk (i := 3) rfl (by kernel_rfl) rfl (H.sub (by repeat (first | exact List.Sublist.refl _ | exact List.nil_sublist _ | apply List.Sublist.cons_cons | apply List.Sublist.cons))) (fun w' H => r_mv (v := .pointer _) rfl) ?_
  first | refine tk (i := 4) rfl (by kernel_rfl) rfl (H.sub (by repeat (first | exact List.Sublist.refl _ | exact List.nil_sublist _ | apply List.Sublist.cons_cons | apply List.Sublist.cons))) (fun w' H => r_nc rfl) ?_ | refine tk (i := 4) rfl (by kernel_rfl) rfl (H.sub (by repeat (first | exact List.Sublist.refl _ | exact List.nil_sublist _ | apply List.Sublist.cons_cons | apply List.Sublist.cons))) (fun w' H => r_nci rfl) ?_
  refine tk (i := 5) rfl (by kernel_rfl) rfl (H.sub (by repeat (first | exact List.Sublist.refl _ | exact List.nil_sublist _ | apply List.Sublist.cons_cons | apply List.Sublist.cons))) (fun w' H => r_fa rfl fo54_1) ?_
  first | refine tk (i := 6) rfl (by kernel_rfl) rfl (H.sub (by repeat (first | exact List.Sublist.refl _ | exact List.nil_sublist _ | apply List.Sublist.cons_cons | apply List.Sublist.cons))) (fun w' H => r_ld H rfl sc24 rfl) ?_ | refine tk (i := 6) rfl (by kernel_rfl) rfl (H.sub (by repeat (first | exact List.Sublist.refl _ | exact List.nil_sublist _ | apply List.Sublist.cons_cons | apply List.Sublist.cons))) (fun w' H => r_lc rfl (by first | assumption | exact H.fr.cell (by assumption) (by simp)) sc24) ?_ | refine tk (i := 6) rfl (by kernel_rfl) rfl (H.sub (by repeat (first | exact List.Sublist.refl _ | exact List.nil_sublist _ | apply List.Sublist.cons_cons | apply List.Sublist.cons))) (fun w' H => r_ld H rfl sc24 (by assumption)) ?_
  refine tk (i := 7) rfl (by kernel_rfl) rfl (H.sub (by repeat (first | exact List.Sublist.refl _ | exact List.nil_sublist _ | apply List.Sublist.cons_cons | apply List.Sublist.cons))) (fun w' H => r_cvi rfl rfl Try.underlying77 (by first | exact w_u16 (by omega) | exact w_u16 (rng_u16 _) | exact m_u16 _)) ?_
  refine fk (i := 8) (by kernel_rfl) rfl rfl rfl ?_
  refine cl ca57 (c_PutUint16 _ q (2) 2 _ (65535) _ (pAt (List.replicate (n * 2) 0) 0 (leB 2 65528)) (H.look (b := q)) (by decide) (by first | (rw [List.length_replicate]; omega) | (rw [pAt_len (by rw [leB_len, List.length_replicate]; omega), List.length_replicate]; omega) | (rw [wB_len]; omega)) (by omega)) rfl ?_
  rintro _ w2 ⟨rfl, hpl, F, hnew⟩
  replace H := H.put (b := q) F hnew; clear F hnew
  rw [fI_head (f := f) (by decide) hn.1] at H
  refine nl ?_
  refine then_n ?_
  refine ⟨H.sub (by repeat (first | exact List.Sublist.refl _ | exact List.nil_sublist _ | apply List.Sublist.cons_cons | apply List.Sublist.cons)), ?_⟩
  refine da (by kernel_rfl) ?_
  refine then_n ?_
  refine sq ?_
  refine sq ?_
  refine rg ?_
  skip
  refine asg (v := .int .u32 _) rfl rfl ?_
  refine nl ?_
  refine then_n ?_
  refine bk ?_
  refine lpM (α := Nat) [4, 28, 29, 30, 31, 32, 33, 34, 35, 36, 37, 38, 39, 40, 41, 42, 43, 44, 45, 46, 47, 48, 49, 50, 51, 52] (fun i => [(4, .int .u32 (i : Int))]) (fun i w' => (2 ≤ i ∧ i ≤ n) ∧ SH w [] w' [⟨q, .cells (Bs (wB 2 n (fI 65528 65535 f (i)))).toArray 5 (0, 0), true⟩, ⟨t, .cells ([.int .u32 (65528), .int .u32 65535, .slice (some ⟨c, 0, none⟩) (n + 1) (n + 1), .int .u32 ((n : Nat) : Int), .int .u32 (((n * 2) : Nat) : Int)] : List Value).toArray 54 (0, 0), false⟩, ⟨c, .cells (clR .u32 (n + 1) (f)).toArray 24 (0, 0), false⟩]) (fun i => n - i) 2 ?_ (fC (by first | rfl | exact congrArg (Value.int _) (by first | omega | assumption | (symm; assumption) | (simp; done) | (simp; omega)) | exact congrArg (fun n => Value.slice _ n _) (by first | omega | (simp; done) | (simp; omega))) (fN _)) ?_   -- loop 1
  · exact ⟨⟨by omega, by omega⟩, H⟩
  · rintro i ρx w3 ⟨hi, H⟩
    refine sq ?_
    refine sq ?_
    refine rg ?_
    refine mv (v := .int .u32 _) rfl rfl ?_
    refine mv (v := .pointer _) rfl rfl ?_
    first | refine nc rfl rfl ?_ | refine nci rfl rfl ?_
    refine fa rfl fo54_3 rfl ?_
    first | refine ld H rfl sc24 rfl rfl ?_ | refine lc rfl (by first | assumption | exact H.fr.cell (by assumption) (by simp)) sc24 rfl ?_ | refine ld H rfl sc24 (by assumption) rfl ?_
    refine lss rfl rfl rfl ?_
    refine nl ?_
    refine then_n ?_
    first | refine cd rfl (fun hc1 => ?_) (fun hc1 => ?_) | refine cn rfl (fun hc1 => ?_) (fun hc1 => ?_)   -- test 1
    · have hvi := hv i hi.1 (by omega)
      refine sk ?_
      refine then_n ?_
      refine sq ?_
      refine bk ?_
      refine dr (by kernel_rfl) ?_   -- region 7
      have H := H.drew
      refine hold (fun w' => SH w [] w' [⟨t, .cells ([.int .u32 (65528), .int .u32 65535, .slice (some ⟨c, 0, none⟩) (n + 1) (n + 1), .int .u32 ((n : Nat) : Int), .int .u32 (((n * 2) : Nat) : Int)] : List Value).toArray 54 (0, 0), false⟩, ⟨c, .cells (clR .u32 (n + 1) (f)).toArray 24 (0, 0), false⟩]) [] ?_
      refine tk (i := 0) rfl (by kernel_rfl) rfl (H.sub (by repeat (first | exact List.Sublist.refl _ | exact List.nil_sublist _ | apply List.Sublist.cons_cons | apply List.Sublist.cons))) (fun w' H => r_lw (vs := []) rfl ag75_0 rfl (by simp)) ?_
      refine tk (i := 1) rfl (by kernel_rfl) rfl (H.sub (by repeat (first | exact List.Sublist.refl _ | exact List.nil_sublist _ | apply List.Sublist.cons_cons | apply List.Sublist.cons))) (fun w' H => r_mv (v := .slice _ _ _) rfl) ?_
      refine tk (i := 2) rfl (by kernel_rfl) rfl (H.sub (by repeat (first | exact List.Sublist.refl _ | exact List.nil_sublist _ | apply List.Sublist.cons_cons | apply List.Sublist.cons))) (fun w' H => r_mv (v := .int .u32 _) rfl) ?_
      refine tk (i := 3) rfl (by kernel_rfl) rfl (H.sub (by repeat (first | exact List.Sublist.refl _ | exact List.nil_sublist _ | apply List.Sublist.cons_cons | apply List.Sublist.cons))) (fun w' H => r_mul (c := ((i * 2 : Nat) : Int)) rfl rfl (by rw [w_u32 (by omega)]; omega)) ?_
      refine tk (i := 4) rfl (by kernel_rfl) rfl (H.sub (by repeat (first | exact List.Sublist.refl _ | exact List.nil_sublist _ | apply List.Sublist.cons_cons | apply List.Sublist.cons))) (fun w' H => r_mv (v := .int .u32 _) rfl) ?_
      refine tk (i := 5) rfl (by kernel_rfl) rfl (H.sub (by repeat (first | exact List.Sublist.refl _ | exact List.nil_sublist _ | apply List.Sublist.cons_cons | apply List.Sublist.cons))) (fun w' H => r_mul (c := ((i * 2 : Nat) : Int)) rfl rfl (by rw [w_u32 (by omega)]; omega)) ?_
      refine tk (i := 6) rfl (by kernel_rfl) rfl (H.sub (by repeat (first | exact List.Sublist.refl _ | exact List.nil_sublist _ | apply List.Sublist.cons_cons | apply List.Sublist.cons))) (fun w' H => r_add (c := ((i * 2 + 2 : Nat) : Int)) rfl rfl (by rw [w_u32 (by omega)]; omega)) ?_
      refine tk (i := 7) rfl (by kernel_rfl) rfl (H.sub (by repeat (first | exact List.Sublist.refl _ | exact List.nil_sublist _ | apply List.Sublist.cons_cons | apply List.Sublist.cons))) (fun w' H => r_sllhN (i * 2) (2) (n * 2 - i * 2) rfl rfl rfl Try.underlying36 sz5_1 (by omega) (by omega)) ?_
      refine tk (i := 8) rfl (by kernel_rfl) rfl (H.sub (by repeat (first | exact List.Sublist.refl _ | exact List.nil_sublist _ | apply List.Sublist.cons_cons | apply List.Sublist.cons))) (fun w' H => r_mv (v := .pointer _) rfl) ?_
      first | refine tk (i := 9) rfl (by kernel_rfl) rfl (H.sub (by repeat (first | exact List.Sublist.refl _ | exact List.nil_sublist _ | apply List.Sublist.cons_cons | apply List.Sublist.cons))) (fun w' H => r_nc rfl) ?_ | refine tk (i := 9) rfl (by kernel_rfl) rfl (H.sub (by repeat (first | exact List.Sublist.refl _ | exact List.nil_sublist _ | apply List.Sublist.cons_cons | apply List.Sublist.cons))) (fun w' H => r_nci rfl) ?_
      refine tk (i := 10) rfl (by kernel_rfl) rfl (H.sub (by repeat (first | exact List.Sublist.refl _ | exact List.nil_sublist _ | apply List.Sublist.cons_cons | apply List.Sublist.cons))) (fun w' H => r_fa rfl fo54_2) ?_
      first | refine tk (i := 11) rfl (by kernel_rfl) rfl (H.sub (by repeat (first | exact List.Sublist.refl _ | exact List.nil_sublist _ | apply List.Sublist.cons_cons | apply List.Sublist.cons))) (fun w' H => r_ld H rfl sc22 rfl) ?_ | refine tk (i := 11) rfl (by kernel_rfl) rfl (H.sub (by repeat (first | exact List.Sublist.refl _ | exact List.nil_sublist _ | apply List.Sublist.cons_cons | apply List.Sublist.cons))) (fun w' H => r_lc rfl (by first | assumption | exact H.fr.cell (by assumption) (by simp)) sc22) ?_ | refine tk (i := 11) rfl (by kernel_rfl) rfl (H.sub (by repeat (first | exact List.Sublist.refl _ | exact List.nil_sublist _ | apply List.Sublist.cons_cons | apply List.Sublist.cons))) (fun w' H => r_ld H rfl sc22 (by assumption)) ?_
      refine tk (i := 12) rfl (by kernel_rfl) rfl (H.sub (by repeat (first | exact List.Sublist.refl _ | exact List.nil_sublist _ | apply List.Sublist.cons_cons | apply List.Sublist.cons))) (fun w' H => r_mv (v := .int .u32 _) rfl) ?_
      refine tk (i := 13) rfl (by kernel_rfl) rfl (H.sub (by repeat (first | exact List.Sublist.refl _ | exact List.nil_sublist _ | apply List.Sublist.cons_cons | apply List.Sublist.cons))) (fun w' H => r_iaN (i) rfl rfl Try.underlying22 sz24_1 (by omega) (by omega)) ?_
      refine tk (i := 14) rfl (by kernel_rfl) rfl (H.sub (by repeat (first | exact List.Sublist.refl _ | exact List.nil_sublist _ | apply List.Sublist.cons_cons | apply List.Sublist.cons))) (fun w' H => r_ld (v := .int .u32 (f i)) H rfl sc24 (clR_get (by omega))) ?_
      refine tk (i := 15) rfl (by kernel_rfl) rfl (H.sub (by repeat (first | exact List.Sublist.refl _ | exact List.nil_sublist _ | apply List.Sublist.cons_cons | apply List.Sublist.cons))) (fun w' H => r_cvi rfl rfl Try.underlying77 (by first | exact w_u16 (by omega) | exact w_u16 (rng_u16 _) | exact m_u16 _)) ?_
      refine fk (i := 16) (by kernel_rfl) rfl rfl rfl ?_
      refine cl ca57 (c_PutUint16 _ q (i * 2) 2 _ (f i) _ (wB 2 n (fI 65528 65535 f (i))) (H.look (b := q)) (by decide) (by first | (rw [List.length_replicate]; omega) | (rw [pAt_len (by rw [leB_len, List.length_replicate]; omega), List.length_replicate]; omega) | (rw [wB_len]; omega)) (by omega)) rfl ?_
      rintro _ w4 ⟨rfl, hpl, F, hnew⟩
      replace H := H.put (b := q) F hnew; clear F hnew
      refine nl ?_
      refine then_n ?_
      refine ⟨H.sub (by repeat (first | exact List.Sublist.refl _ | exact List.nil_sublist _ | apply List.Sublist.cons_cons | apply List.Sublist.cons)), ?_⟩
      refine da (by kernel_rfl) ?_
      refine in_n ?_
      refine then_n ?_
      refine rg ?_
      refine mv (v := .int .u32 _) rfl rfl ?_
      refine add rfl rfl (by first | exact w_u32 (by omega) | exact w_u32 (rng_u32 _) | exact m_u32 _) rfl ?_
      refine asg (v := .int .u32 _) rfl rfl ?_
      refine nl ?_
      refine loop_n ?_
      exact ⟨i + 1, (by (try dsimp only); omega), ⟨by omega, by rw [← fI_next hi.1, ← wB_put (by decide) (by omega)]; exact H⟩, (fC (by first | rfl | exact congrArg (Value.int _) (by first | omega | assumption | (symm; assumption) | (simp; done) | (simp; omega)) | exact congrArg (fun n => Value.slice _ n _) (by first | omega | (simp; done) | (simp; omega))) (fN _)), (by repeat (first | exact Agree.setL rfl Agree.mask | exact Agree.self _ _ | refine Agree.upd rfl ?_ | refine Agree.setL rfl ?_ | refine Agree.mask2 rfl ?_))⟩
    · refine ex ?_
      refine then_e ?_
      refine loop_e ?_
      refine in_hit rfl ?_
      refine then_n ?_
      refine sq ?_
      refine rg ?_
      refine mv (v := .slice _ _ _) rfl rfl ?_
      refine asg (v := .slice _ _ _) rfl rfl ?_
      refine nl ?_
      refine then_n ?_
      refine rt ?_
      refine fin_r ?_
      obtain rfl : i = n := by omega
      exact ⟨q, rfl, H.sub (by repeat (first | exact List.Sublist.refl _ | exact List.nil_sublist _ | apply List.Sublist.cons_cons | apply List.Sublist.cons))⟩

set_option maxRecDepth 100000 in
set_option maxHeartbeats 2000000 in
theorem c_bytes32 (w : World) (t c n : Nat) (f : Nat → Int) (hn : 2 ≤ n ∧ n ≤ 300) (hv : ∀ i, 2 ≤ i → i < n → 0 ≤ f i ∧ f i ≤ 268435455) (ht : w.heap[t]? = some (.cells ([.int .u32 (268435448), .int .u32 268435455, .int .u32 0, .slice (some ⟨c, 0, none⟩) (n + 1) (n + 1), .int .u32 2, .int .u32 (((n * 4) : Nat) : Int), .int .u32 ((n : Nat) : Int)] : List Value).toArray 50 (0, 0))) (hc : w.heap[c]? = some (.cells (clR .u32 (n + 1) (f)).toArray 24 (0, 0))) : Calls Try.prog 59 #[.pointer (some ⟨t, 0, none⟩)] w (Ret fun v w' => ∃ q, v = .slice (some ⟨q, 0, none⟩) (n * 4) (n * 4) ∧ SH w [] w' [⟨q, .cells (Bs (wB 4 n (fI 268435448 268435455 f n))).toArray 5 (0, 0), true⟩]) := by
  refine enter (fun ρ => ρ 2) Try.func59 rfl rfl rfl (res1 rfl) ?_
  have H := SH.ro2 ht hc
  refine sq ?_
  refine rg ?_
  refine asg (v := .slice _ _ _) rfl rfl ?_
  refine nl ?_
  refine then_n ?_
  refine sq ?_
  refine rg ?_
  refine mv (v := .pointer _) rfl rfl ?_
  first | refine nc rfl rfl ?_ | refine nci rfl rfl ?_
  refine fa rfl fo50_5 rfl ?_
  first | refine ld H rfl sc24 rfl rfl ?_ | refine lc rfl (by first | assumption | exact H.fr.cell (by assumption) (by simp)) sc24 rfl ?_ | refine ld H rfl sc24 (by assumption) rfl ?_
  refine mkB H rfl rfl Try.underlying36 mi5 (by omega) (by omega) (by omega) (by omega) rfl ?_
  clear H; intro q w1 hq1 H _
  refine asg (v := .slice _ _ _) rfl rfl ?_
  refine nl ?_
  refine then_n ?_
  refine sq ?_
  refine dr (by kernel_rfl) ?_   -- region 2
  have H := H.drew
  refine hold (fun w' => SH w [] w' [⟨t, .cells ([.int .u32 (268435448), .int .u32 268435455, .int .u32 0, .slice (some ⟨c, 0, none⟩) (n + 1) (n + 1), .int .u32 2, .int .u32 (((n * 4) : Nat) : Int), .int .u32 ((n : Nat) : Int)] : List Value).toArray 50 (0, 0), false⟩, ⟨c, .cells (clR .u32 (n + 1) (f)).toArray 24 (0, 0), false⟩]) [] ?_
  refine tk (i := 0) rfl (by kernel_rfl) rfl (H.sub (by repeat (first | exact List.Sublist.refl _ | exact List.nil_sublist _ | apply List.Sublist.cons_cons | apply List.Sublist.cons))) (fun w' H => r_lw (vs := []) rfl ag75_0 rfl (by simp)) ?_
  refine tk (i := 1) rfl (by kernel_rfl) rfl (H.sub (by repeat (first | exact List.Sublist.refl _ | exact List.nil_sublist _ | apply List.Sublist.cons_cons | apply List.Sublist.cons))) (fun w' H => r_mv (v := .slice _ _ _) rfl) ?_
  refine tk (i := 2) rfl (by kernel_rfl) rfl (H.sub (by repeat (first | exact List.Sublist.refl _ | exact List.nil_sublist _ | apply List.Sublist.cons_cons | apply List.Sublist.cons))) (fun w' H => r_sllhN (0) (4) (n * 4) rfl rfl rfl Try.underlying36 sz5_1 (by omega) (by omega)) ?_
  refine tk (i := 3) rfl (by kernel_rfl) rfl (H.sub (by repeat (first | exact List.Sublist.refl _ | exact List.nil_sublist _ | apply List.Sublist.cons_cons | apply List.Sublist.cons))) (fun w' H => r_mv (v := .pointer _) rfl) ?_
  first | refine tk (i := 4) rfl (by kernel_rfl) rfl (H.sub (by repeat (first | exact List.Sublist.refl _ | exact List.nil_sublist _ | apply List.Sublist.cons_cons | apply List.Sublist.cons))) (fun w' H => r_nc rfl) ?_ | refine tk (i := 4) rfl (by kernel_rfl) rfl (H.sub (by repeat (first | exact List.Sublist.refl _ | exact List.nil_sublist _ | apply List.Sublist.cons_cons | apply List.Sublist.cons))) (fun w' H => r_nci rfl) ?_
  refine tk (i := 5) rfl (by kernel_rfl) rfl (H.sub (by repeat (first | exact List.Sublist.refl _ | exact List.nil_sublist _ | apply List.Sublist.cons_cons | apply List.Sublist.cons))) (fun w' H => r_fa rfl fo50_0) ?_
  first | refine tk (i := 6) rfl (by kernel_rfl) rfl (H.sub (by repeat (first | exact List.Sublist.refl _ | exact List.nil_sublist _ | apply List.Sublist.cons_cons | apply List.Sublist.cons))) (fun w' H => r_ld H rfl sc24 rfl) ?_ | refine tk (i := 6) rfl (by kernel_rfl) rfl (H.sub (by repeat (first | exact List.Sublist.refl _ | exact List.nil_sublist _ | apply List.Sublist.cons_cons | apply List.Sublist.cons))) (fun w' H => r_lc rfl (by first | assumption | exact H.fr.cell (by assumption) (by simp)) sc24) ?_ | refine tk (i := 6) rfl (by kernel_rfl) rfl (H.sub (by repeat (first | exact List.Sublist.refl _ | exact List.nil_sublist _ | apply List.Sublist.cons_cons | apply List.Sublist.cons))) (fun w' H => r_ld H rfl sc24 (by assumption)) ?_
  refine fk (i := 7) (by kernel_rfl) rfl rfl rfl ?_
  refine cl ca70 (c_PutUint32 _ q (0) 4 _ (268435448) _ (List.replicate (n * 4) 0) (H.look (b := q)) (by decide) (by first | (rw [List.length_replicate]; omega) | (rw [pAt_len (by rw [leB_len, List.length_replicate]; omega), List.length_replicate]; omega) | (rw [wB_len]; omega)) (by omega)) rfl ?_
  rintro _ w1 ⟨rfl, hpl, F, hnew⟩
  replace H := H.put (b := q) F hnew; clear F hnew
  refine nl ?_
  refine then_n ?_
  refine ⟨H.sub (by repeat (first | exact List.Sublist.refl _ | exact List.nil_sublist _ | apply List.Sublist.cons_cons | apply List.Sublist.cons)), ?_⟩
  refine da (by kernel_rfl) ?_
  refine then_n ?_
  refine sq ?_
  refine dr (by kernel_rfl) ?_   -- region 3
  have H := H.drew
  refine hold (fun w' => SH w [] w' [⟨t, .cells ([.int .u32 (268435448), .int .u32 268435455, .int .u32 0, .slice (some ⟨c, 0, none⟩) (n + 1) (n + 1), .int .u32 2, .int .u32 (((n * 4) : Nat) : Int), .int .u32 ((n : Nat) : Int)] : List Value).toArray 50 (0, 0), false⟩, ⟨c, .cells (clR .u32 (n + 1) (f)).toArray 24 (0, 0), false⟩]) [] ?_
  refine tk (i := 0) rfl (by kernel_rfl) rfl (H.sub (by repeat (first | exact List.Sublist.refl _ | exact List.nil_sublist _ | apply List.Sublist.cons_cons | apply List.Sublist.cons))) (fun w' H => r_lw (vs := []) rfl ag75_0 rfl (by simp)) ?_
  refine tk (i := 1) rfl (by kernel_rfl) rfl (H.sub (by repeat (first | exact List.Sublist.refl _ | exact List.nil_sublist _ | apply List.Sublist.cons_cons | apply List.Sublist.cons))) (fun w' H => r_mv (v := .slice _ _ _) rfl) ?_
  refine tk (i := 2) rfl (by kernel_rfl) rfl (H.sub (by repeat (first | exact List.Sublist.refl _ | exact List.nil_sublist _ | apply List.Sublist.cons_cons | apply List.Sublist.cons))) (fun w' H => r_sllhN (4) (4) (n * 4 - 4) rfl rfl rfl Try.underlying36 sz5_1 (by omega) (by omega)) ?_
  refine tk (i := 3) rfl (by kernel_rfl) rfl (H.sub (by repeat (first | exact List.Sublist.refl _ | exact List.nil_sublist _ | apply List.Sublist.cons_cons | apply List.Sublist.cons))) (fun w' H => r_mv (v := .pointer _) rfl) ?_
  first | refine tk (i := 4) rfl (by kernel_rfl) rfl (H.sub (by repeat (first | exact List.Sublist.refl _ | exact List.nil_sublist _ | apply List.Sublist.cons_cons | apply List.Sublist.cons))) (fun w' H => r_nc rfl) ?_ | refine tk (i := 4) rfl (by kernel_rfl) rfl (H.sub (by repeat (first | exact List.Sublist.refl _ | exact List.nil_sublist _ | apply List.Sublist.cons_cons | apply List.Sublist.cons))) (fun w' H => r_nci rfl) ?_
  refine tk (i := 5) rfl (by kernel_rfl) rfl (H.sub (by repeat (first | exact List.Sublist.refl _ | exact List.nil_sublist _ | apply List.Sublist.cons_cons | apply List.Sublist.cons))) (fun w' H => r_fa rfl fo50_1) ?_
  first | refine tk (i := 6) rfl (by kernel_rfl) rfl (H.sub (by repeat (first | exact List.Sublist.refl _ | exact List.nil_sublist _ | apply List.Sublist.cons_cons | apply List.Sublist.cons))) (fun w' H => r_ld H rfl sc24 rfl) ?_ | refine tk (i := 6) rfl (by kernel_rfl) rfl (H.sub (by repeat (first | exact List.Sublist.refl _ | exact List.nil_sublist _ | apply List.Sublist.cons_cons | apply List.Sublist.cons))) (fun w' H => r_lc rfl (by first | assumption | exact H.fr.cell (by assumption) (by simp)) sc24) ?_ | refine tk (i := 6) rfl (by kernel_rfl) rfl (H.sub (by repeat (first | exact List.Sublist.refl _ | exact List.nil_sublist _ | apply List.Sublist.cons_cons | apply List.Sublist.cons))) (fun w' H => r_ld H rfl sc24 (by assumption)) ?_
  refine fk (i := 7) (by kernel_rfl) rfl rfl rfl ?_
  refine cl ca70 (c_PutUint32 _ q (4) 4 _ (268435455) _ (pAt (List.replicate (n * 4) 0) 0 (leB 4 268435448)) (H.look (b := q)) (by decide) (by first | (rw [List.length_replicate]; omega) | (rw [pAt_len (by rw [leB_len, List.length_replicate]; omega), List.length_replicate]; omega) | (rw [wB_len]; omega)) (by omega)) rfl ?_
  rintro _ w2 ⟨rfl, hpl, F, hnew⟩
  replace H := H.put (b := q) F hnew; clear F hnew
  rw [fI_head (f := f) (by decide) hn.1] at H
  refine nl ?_
  refine then_n ?_
  refine ⟨H.sub (by repeat (first | exact List.Sublist.refl _ | exact List.nil_sublist _ | apply List.Sublist.cons_cons | apply List.Sublist.cons)), ?_⟩
  refine da (by kernel_rfl) ?_
  refine then_n ?_
  refine sq ?_
  refine sq ?_
  refine rg ?_
  skip
  refine asg (v := .int .u32 _) rfl rfl ?_
  refine nl ?_
  refine then_n ?_
  refine bk ?_
  refine lpM (α := Nat) [4, 5, 27, 28, 29, 30, 31, 32, 33, 34, 35, 36, 37, 38, 39, 40, 41, 42, 43, 44, 45, 46, 47, 48, 49, 50] (fun i => [(4, .int .u32 (i : Int))]) (fun i w' => (2 ≤ i ∧ i ≤ n) ∧ SH w [] w' [⟨q, .cells (Bs (wB 4 n (fI 268435448 268435455 f (i)))).toArray 5 (0, 0), true⟩, ⟨t, .cells ([.int .u32 (268435448), .int .u32 268435455, .int .u32 0, .slice (some ⟨c, 0, none⟩) (n + 1) (n + 1), .int .u32 2, .int .u32 (((n * 4) : Nat) : Int), .int .u32 ((n : Nat) : Int)] : List Value).toArray 50 (0, 0), false⟩, ⟨c, .cells (clR .u32 (n + 1) (f)).toArray 24 (0, 0), false⟩]) (fun i => n - i) 2 ?_ (fC (by first | rfl | exact congrArg (Value.int _) (by first | omega | assumption | (symm; assumption) | (simp; done) | (simp; omega)) | exact congrArg (fun n => Value.slice _ n _) (by first | omega | (simp; done) | (simp; omega))) (fN _)) ?_   -- loop 1
  · exact ⟨⟨by omega, by omega⟩, H⟩
  · rintro i ρx w3 ⟨hi, H⟩
    refine sq ?_
    refine sq ?_
    refine rg ?_
    refine mv (v := .int .u32 _) rfl rfl ?_
    refine mv (v := .pointer _) rfl rfl ?_
    first | refine nc rfl rfl ?_ | refine nci rfl rfl ?_
    refine fa rfl fo50_6 rfl ?_
    first | refine ld H rfl sc24 rfl rfl ?_ | refine lc rfl (by first | assumption | exact H.fr.cell (by assumption) (by simp)) sc24 rfl ?_ | refine ld H rfl sc24 (by assumption) rfl ?_
    refine lss rfl rfl rfl ?_
    refine nl ?_
    refine then_n ?_
    first | refine cd rfl (fun hc1 => ?_) (fun hc1 => ?_) | refine cn rfl (fun hc1 => ?_) (fun hc1 => ?_)   -- test 1
    · have hvi := hv i hi.1 (by omega)
      refine sk ?_
      refine then_n ?_
      refine sq ?_
      refine bk ?_
      refine sq ?_
      refine rg ?_
      refine mv (v := .int .u32 _) rfl rfl ?_
      refine mul (c := ((i * 4 : Nat) : Int)) rfl rfl (by rw [w_u32 (by omega)]; omega) rfl ?_
      refine asg (v := .int .u32 _) rfl rfl ?_
      refine nl ?_
      refine then_n ?_
      refine dr (by kernel_rfl) ?_   -- region 8
      have H := H.drew
      refine hold (fun w' => SH w [] w' [⟨t, .cells ([.int .u32 (268435448), .int .u32 268435455, .int .u32 0, .slice (some ⟨c, 0, none⟩) (n + 1) (n + 1), .int .u32 2, .int .u32 (((n * 4) : Nat) : Int), .int .u32 ((n : Nat) : Int)] : List Value).toArray 50 (0, 0), false⟩, ⟨c, .cells (clR .u32 (n + 1) (f)).toArray 24 (0, 0), false⟩]) [] ?_
      refine tk (i := 0) rfl (by kernel_rfl) rfl (H.sub (by repeat (first | exact List.Sublist.refl _ | exact List.nil_sublist _ | apply List.Sublist.cons_cons | apply List.Sublist.cons))) (fun w' H => r_lw (vs := []) rfl ag75_0 rfl (by simp)) ?_
      refine tk (i := 1) rfl (by kernel_rfl) rfl (H.sub (by repeat (first | exact List.Sublist.refl _ | exact List.nil_sublist _ | apply List.Sublist.cons_cons | apply List.Sublist.cons))) (fun w' H => r_mv (v := .slice _ _ _) rfl) ?_
      refine tk (i := 2) rfl (by kernel_rfl) rfl (H.sub (by repeat (first | exact List.Sublist.refl _ | exact List.nil_sublist _ | apply List.Sublist.cons_cons | apply List.Sublist.cons))) (fun w' H => r_mv (v := .int .u32 _) rfl) ?_
      refine tk (i := 3) rfl (by kernel_rfl) rfl (H.sub (by repeat (first | exact List.Sublist.refl _ | exact List.nil_sublist _ | apply List.Sublist.cons_cons | apply List.Sublist.cons))) (fun w' H => r_mv (v := .int .u32 _) rfl) ?_
      refine tk (i := 4) rfl (by kernel_rfl) rfl (H.sub (by repeat (first | exact List.Sublist.refl _ | exact List.nil_sublist _ | apply List.Sublist.cons_cons | apply List.Sublist.cons))) (fun w' H => r_add (c := ((i * 4 + 4 : Nat) : Int)) rfl rfl (by rw [w_u32 (by omega)]; omega)) ?_
      refine tk (i := 5) rfl (by kernel_rfl) rfl (H.sub (by repeat (first | exact List.Sublist.refl _ | exact List.nil_sublist _ | apply List.Sublist.cons_cons | apply List.Sublist.cons))) (fun w' H => r_sllhN (i * 4) (4) (n * 4 - i * 4) rfl rfl rfl Try.underlying36 sz5_1 (by omega) (by omega)) ?_
      refine tk (i := 6) rfl (by kernel_rfl) rfl (H.sub (by repeat (first | exact List.Sublist.refl _ | exact List.nil_sublist _ | apply List.Sublist.cons_cons | apply List.Sublist.cons))) (fun w' H => r_mv (v := .pointer _) rfl) ?_
      first | refine tk (i := 7) rfl (by kernel_rfl) rfl (H.sub (by repeat (first | exact List.Sublist.refl _ | exact List.nil_sublist _ | apply List.Sublist.cons_cons | apply List.Sublist.cons))) (fun w' H => r_nc rfl) ?_ | refine tk (i := 7) rfl (by kernel_rfl) rfl (H.sub (by repeat (first | exact List.Sublist.refl _ | exact List.nil_sublist _ | apply List.Sublist.cons_cons | apply List.Sublist.cons))) (fun w' H => r_nci rfl) ?_
      refine tk (i := 8) rfl (by kernel_rfl) rfl (H.sub (by repeat (first | exact List.Sublist.refl _ | exact List.nil_sublist _ | apply List.Sublist.cons_cons | apply List.Sublist.cons))) (fun w' H => r_fa rfl fo50_3) ?_
      first | refine tk (i := 9) rfl (by kernel_rfl) rfl (H.sub (by repeat (first | exact List.Sublist.refl _ | exact List.nil_sublist _ | apply List.Sublist.cons_cons | apply List.Sublist.cons))) (fun w' H => r_ld H rfl sc22 rfl) ?_ | refine tk (i := 9) rfl (by kernel_rfl) rfl (H.sub (by repeat (first | exact List.Sublist.refl _ | exact List.nil_sublist _ | apply List.Sublist.cons_cons | apply List.Sublist.cons))) (fun w' H => r_lc rfl (by first | assumption | exact H.fr.cell (by assumption) (by simp)) sc22) ?_ | refine tk (i := 9) rfl (by kernel_rfl) rfl (H.sub (by repeat (first | exact List.Sublist.refl _ | exact List.nil_sublist _ | apply List.Sublist.cons_cons | apply List.Sublist.cons))) (fun w' H => r_ld H rfl sc22 (by assumption)) ?_
      refine tk (i := 10) rfl (by kernel_rfl) rfl (H.sub (by repeat (first | exact List.Sublist.refl _ | exact List.nil_sublist _ | apply List.Sublist.cons_cons | apply List.Sublist.cons))) (fun w' H => r_mv (v := .int .u32 _) rfl) ?_
      refine tk (i := 11) rfl (by kernel_rfl) rfl (H.sub (by repeat (first | exact List.Sublist.refl _ | exact List.nil_sublist _ | apply List.Sublist.cons_cons | apply List.Sublist.cons))) (fun w' H => r_iaN (i) rfl rfl Try.underlying22 sz24_1 (by omega) (by omega)) ?_
      refine tk (i := 12) rfl (by kernel_rfl) rfl (H.sub (by repeat (first | exact List.Sublist.refl _ | exact List.nil_sublist _ | apply List.Sublist.cons_cons | apply List.Sublist.cons))) (fun w' H => r_ld (v := .int .u32 (f i)) H rfl sc24 (clR_get (by omega))) ?_
      refine fk (i := 13) (by kernel_rfl) rfl rfl rfl ?_
      refine cl ca70 (c_PutUint32 _ q (i * 4) 4 _ (f i) _ (wB 4 n (fI 268435448 268435455 f (i))) (H.look (b := q)) (by decide) (by first | (rw [List.length_replicate]; omega) | (rw [pAt_len (by rw [leB_len, List.length_replicate]; omega), List.length_replicate]; omega) | (rw [wB_len]; omega)) (by omega)) rfl ?_
      rintro _ w4 ⟨rfl, hpl, F, hnew⟩
      replace H := H.put (b := q) F hnew; clear F hnew
      refine nl ?_
      refine then_n ?_
      refine ⟨H.sub (by repeat (first | exact List.Sublist.refl _ | exact List.nil_sublist _ | apply List.Sublist.cons_cons | apply List.Sublist.cons)), ?_⟩
      refine da (by kernel_rfl) ?_
      refine in_n ?_
      refine then_n ?_
      refine rg ?_
      refine mv (v := .int .u32 _) rfl rfl ?_
      refine add rfl rfl (by first | exact w_u32 (by omega) | exact w_u32 (rng_u32 _) | exact m_u32 _) rfl ?_
      refine asg (v := .int .u32 _) rfl rfl ?_
      refine nl ?_
      refine loop_n ?_
      exact ⟨i + 1, (by (try dsimp only); omega), ⟨by omega, by rw [← fI_next hi.1, ← wB_put (by decide) (by omega)]; exact H⟩, (fC (by first | rfl | exact congrArg (Value.int _) (by first | omega | assumption | (symm; assumption) | (simp; done) | (simp; omega)) | exact congrArg (fun n => Value.slice _ n _) (by first | omega | (simp; done) | (simp; omega))) (fN _)), (by repeat (first | exact Agree.setL rfl Agree.mask | exact Agree.self _ _ | refine Agree.upd rfl ?_ | refine Agree.setL rfl ?_ | refine Agree.mask2 rfl ?_))⟩
    · refine ex ?_
      refine then_e ?_
      refine loop_e ?_
      refine in_hit rfl ?_
      refine then_n ?_
      refine sq ?_
      refine rg ?_
      refine mv (v := .slice _ _ _) rfl rfl ?_
      refine asg (v := .slice _ _ _) rfl rfl ?_
      refine nl ?_
      refine then_n ?_
      refine rt ?_
      refine fin_r ?_
      obtain rfl : i = n := by omega
      exact ⟨q, rfl, H.sub (by repeat (first | exact List.Sublist.refl _ | exact List.nil_sublist _ | apply List.Sublist.cons_cons | apply List.Sublist.cons))⟩

end Go.Proofs.Ytgmkjndmjnbahaa.X
