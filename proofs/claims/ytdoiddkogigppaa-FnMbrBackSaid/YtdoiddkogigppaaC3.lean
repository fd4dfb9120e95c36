/- Walks of functions, printed by a program of this claim. -/
import Derived.Test.YtdoiddkogigppaaC2
namespace Go.Proofs.Ytdoiddkogigppaa.X
set_option linter.unusedVariables false
set_option linter.unusedSimpArgs false
open Go Go.RowKit

namespace C3
theorem ag92_0 : aggB Try.prog 92 0 = true := by kernel_rfl
theorem ca30 : callable Try.prog 30 = true := by kernel_rfl
theorem ca34 : callable Try.prog 34 = true := by kernel_rfl
theorem ca38 : callable Try.prog 38 = true := by kernel_rfl
theorem fo56_0 : fieldOff Try.prog 56 0 = some 0 := by kernel_rfl
theorem fo75_1 : fieldOff Try.prog 75 1 = some 1 := by kernel_rfl
theorem fo75_10 : fieldOff Try.prog 75 10 = some 10 := by kernel_rfl
theorem fo75_2 : fieldOff Try.prog 75 2 = some 2 := by kernel_rfl
theorem fo75_3 : fieldOff Try.prog 75 3 = some 3 := by kernel_rfl
theorem fo75_4 : fieldOff Try.prog 75 4 = some 4 := by kernel_rfl
theorem fo75_5 : fieldOff Try.prog 75 5 = some 5 := by kernel_rfl
theorem fo75_6 : fieldOff Try.prog 75 6 = some 6 := by kernel_rfl
theorem fo75_7 : fieldOff Try.prog 75 7 = some 7 := by kernel_rfl
theorem fo75_8 : fieldOff Try.prog 75 8 = some 8 := by kernel_rfl
theorem fo75_9 : fieldOff Try.prog 75 9 = some 9 := by kernel_rfl
theorem mi5 : elemInfo Try.prog 5 = some (.int .u8 0, 1) := by kernel_rfl
theorem ri5 : rowInfo Try.prog 5 = some ([.int .u8 0], 1) := by kernel_rfl
theorem sc23 : scalarB Try.prog 23 = true := by kernel_rfl
theorem sc4 : scalarB Try.prog 4 = true := by kernel_rfl
theorem sc5 : scalarB Try.prog 5 = true := by kernel_rfl
theorem sc54 : scalarB Try.prog 54 = true := by kernel_rfl
theorem sc57 : scalarB Try.prog 57 = true := by kernel_rfl
theorem sc73 : scalarB Try.prog 73 = true := by kernel_rfl
theorem sz57_1 : sizeB Try.prog 57 1 = true := by kernel_rfl
theorem sz5_1 : sizeB Try.prog 5 1 = true := by kernel_rfl
theorem ze5 : zeroL Try.prog 5 = some [.int .u8 0] := by kernel_rfl

end C3
open C3

set_option maxRecDepth 100000 in
theorem c_ptBytes (w : World) (p : Nat) (q : MP) (y1 y2 y3 : Value) (hq : q.ok) (hp : w.heap[p]? = some (.cells (q.cells ++ [y1, y2, y3]).toArray 75 (0, 0))) : Calls Try.prog 34 #[.pointer (some ⟨p, 0, none⟩)] w (Ret fun v w' => ∃ b, v = .slice (some ⟨b, 0, none⟩) 16 16 ∧ w.heap.size ≤ b ∧ w'.heap[b]? = some (.cells (Bs q.bytes).toArray 5 (0, 0)) ∧ Fr [] w w') := by
  refine enter (fun ρ => ρ 2) Try.func34 rfl rfl rfl (res1 rfl) ?_
  have H := SH.ro1 hp
  have := hq.c0; have := hq.c1; have := hq.c2; have := hq.c3; have := hq.c4; have := hq.c5; have := hq.ty; have := hq.st; have := hq.sz
  refine sq ?_
  refine rg ?_
  refine asg (v := .slice _ _ _) rfl rfl ?_
  refine nl ?_
  refine then_n ?_
  refine sq ?_
  refine rg ?_
  refine mkB H rfl rfl Try.underlying30 mi5 (by omega) (by omega) (by omega) (by omega) rfl ?_
  clear H; intro b1 w1 hb1 H _
  refine asg (v := .slice _ _ _) rfl rfl ?_
  refine nl ?_
  refine then_n ?_
  refine ctM (α := UInt8) [5, 6, 7, 8, 9, 10, 11, 12] (fun x => []) (fun x w' => x = b8 (if q.bt then 128 else 0) ∧ SH w [] w' [⟨b1, .cells (Bs ((List.replicate 16 0).set 0 x)).toArray 5 (0, 0), true⟩, ⟨p, .cells (q.cells ++ [y1, y2, y3]).toArray 75 (0, 0), false⟩]) ?_ ?_   -- cut
  · refine sq ?_
    refine rg ?_
    refine mv (v := .pointer _) rfl rfl ?_
    first | refine nc rfl rfl ?_ | refine nci rfl rfl ?_
    refine fa rfl fo75_1 rfl ?_
    first | refine ld H rfl sc4 rfl rfl ?_ | refine lc rfl (by first | assumption | exact H.fr.cell (by assumption) (by simp)) sc4 rfl ?_ | refine ld H rfl sc4 (by assumption) rfl ?_
    refine nl ?_
    refine then_n ?_
    first | refine cd rfl (fun hc1 => ?_) (fun hc1 => ?_) | refine cn rfl (fun hc1 => ?_) (fun hc1 => ?_)   -- test 1
    · refine rg ?_
      refine mv (v := .slice _ _ _) rfl rfl ?_
      first | refine ia rfl rfl Try.underlying30 sz5_1 (by omega) rfl ?_ | refine iA rfl rfl Try.underlying30 sz5_1 (by omega) rfl ?_
      first | refine stb H rfl rfl sc5 (by omega) (by first | decide | (simp only [List.length_set, List.length_cons, List.length_nil, List.length_replicate, List.length_append, Bs_length]; omega) | omega) (by omega) ?_ | refine st (v := .int .u8 _) H rfl rfl sc5 rfl (by first | decide | (simp only [List.length_set, List.length_cons, List.length_nil, List.length_replicate, List.length_append, Bs_length]; omega) | omega) (by omega) ?_
      clear H; intro w2 H _
      refine nl ?_
      refine then_n ?_
      exact ⟨_, ⟨by rw [if_pos hc1], H⟩, (fN _), (by repeat (first | exact Agree.setL rfl Agree.mask | exact Agree.self _ _ | refine Agree.upd rfl ?_ | refine Agree.setL rfl ?_ | refine Agree.mask2 rfl ?_))⟩
    · refine rg ?_
      refine mv (v := .slice _ _ _) rfl rfl ?_
      first | refine ia rfl rfl Try.underlying30 sz5_1 (by omega) rfl ?_ | refine iA rfl rfl Try.underlying30 sz5_1 (by omega) rfl ?_
      first | refine stb H rfl rfl sc5 (by omega) (by first | decide | (simp only [List.length_set, List.length_cons, List.length_nil, List.length_replicate, List.length_append, Bs_length]; omega) | omega) (by omega) ?_ | refine st (v := .int .u8 _) H rfl rfl sc5 rfl (by first | decide | (simp only [List.length_set, List.length_cons, List.length_nil, List.length_replicate, List.length_append, Bs_length]; omega) | omega) (by omega) ?_
      clear H; intro w3 H _
      refine nl ?_
      refine then_n ?_
      exact ⟨_, ⟨by rw [hc1]; rfl, H⟩, (fN _), (by repeat (first | exact Agree.setL rfl Agree.mask | exact Agree.self _ _ | refine Agree.upd rfl ?_ | refine Agree.setL rfl ?_ | refine Agree.mask2 rfl ?_))⟩
  · rintro x ρx w4 ⟨rfl, H⟩
    refine sq ?_
    refine rg ?_
    refine mv (v := .slice _ _ _) rfl rfl ?_
    refine mv (v := .pointer _) rfl rfl ?_
    first | refine nc rfl rfl ?_ | refine nci rfl rfl ?_
    refine fa rfl fo75_6 rfl ?_
    first | (refine ldb H rfl sc5 (by omega) rfl ?_; intro hu1) | refine ld H rfl sc5 rfl rfl ?_ | refine lc rfl (by assumption) sc5 rfl ?_
    first | refine ia rfl rfl Try.underlying30 sz5_1 (by omega) rfl ?_ | refine iA rfl rfl Try.underlying30 sz5_1 (by omega) rfl ?_
    first | refine stb H rfl rfl sc5 (by omega) (by first | decide | (simp only [List.length_set, List.length_cons, List.length_nil, List.length_replicate, List.length_append, Bs_length]; omega) | omega) (by omega) ?_ | refine st (v := .int .u8 _) H rfl rfl sc5 rfl (by first | decide | (simp only [List.length_set, List.length_cons, List.length_nil, List.length_replicate, List.length_append, Bs_length]; omega) | omega) (by omega) ?_
    clear H; intro w5 H _
    refine nl ?_
    refine then_n ?_
    refine sq ?_
    refine rg ?_
    refine mv (v := .slice _ _ _) rfl rfl ?_
    refine mv (v := .pointer _) rfl rfl ?_
    first | refine nc rfl rfl ?_ | refine nci rfl rfl ?_
    refine fa rfl fo75_7 rfl ?_
    first | (refine ldb H rfl sc5 (by omega) rfl ?_; intro hu2) | refine ld H rfl sc5 rfl rfl ?_ | refine lc rfl (by assumption) sc5 rfl ?_
    first | refine ia rfl rfl Try.underlying30 sz5_1 (by omega) rfl ?_ | refine iA rfl rfl Try.underlying30 sz5_1 (by omega) rfl ?_
    first | refine stb H rfl rfl sc5 (by omega) (by first | decide | (simp only [List.length_set, List.length_cons, List.length_nil, List.length_replicate, List.length_append, Bs_length]; omega) | omega) (by omega) ?_ | refine st (v := .int .u8 _) H rfl rfl sc5 rfl (by first | decide | (simp only [List.length_set, List.length_cons, List.length_nil, List.length_replicate, List.length_append, Bs_length]; omega) | omega) (by omega) ?_
    clear H; intro w6 H _
    refine nl ?_
    refine then_n ?_
    refine sq ?_
    refine rg ?_
    refine mv (v := .slice _ _ _) rfl rfl ?_
    refine mv (v := .pointer _) rfl rfl ?_
    first | refine nc rfl rfl ?_ | refine nci rfl rfl ?_
    refine fa rfl fo75_5 rfl ?_
    first | (refine ldb H rfl sc5 (by omega) rfl ?_; intro hu3) | refine ld H rfl sc5 rfl rfl ?_ | refine lc rfl (by assumption) sc5 rfl ?_
    first | refine ia rfl rfl Try.underlying30 sz5_1 (by omega) rfl ?_ | refine iA rfl rfl Try.underlying30 sz5_1 (by omega) rfl ?_
    first | refine stb H rfl rfl sc5 (by omega) (by first | decide | (simp only [List.length_set, List.length_cons, List.length_nil, List.length_replicate, List.length_append, Bs_length]; omega) | omega) (by omega) ?_ | refine st (v := .int .u8 _) H rfl rfl sc5 rfl (by first | decide | (simp only [List.length_set, List.length_cons, List.length_nil, List.length_replicate, List.length_append, Bs_length]; omega) | omega) (by omega) ?_
    clear H; intro w7 H _
    refine nl ?_
    refine then_n ?_
    refine sq ?_
    refine rg ?_
    refine mv (v := .slice _ _ _) rfl rfl ?_
    refine mv (v := .pointer _) rfl rfl ?_
    first | refine nc rfl rfl ?_ | refine nci rfl rfl ?_
    refine fa rfl fo75_2 rfl ?_
    first | (refine ldb H rfl sc73 (by omega) rfl ?_; intro hu4) | refine ld H rfl sc73 rfl rfl ?_ | refine lc rfl (by assumption) sc73 rfl ?_
    first | refine ia rfl rfl Try.underlying30 sz5_1 (by omega) rfl ?_ | refine iA rfl rfl Try.underlying30 sz5_1 (by omega) rfl ?_
    first | refine stb H rfl rfl sc5 (by omega) (by first | decide | (simp only [List.length_set, List.length_cons, List.length_nil, List.length_replicate, List.length_append, Bs_length]; omega) | omega) (by omega) ?_ | refine st (v := .int .u8 _) H rfl rfl sc5 rfl (by first | decide | (simp only [List.length_set, List.length_cons, List.length_nil, List.length_replicate, List.length_append, Bs_length]; omega) | omega) (by omega) ?_
    clear H; intro w8 H _
    refine nl ?_
    refine then_n ?_
    refine sq ?_
    refine rg ?_
    refine mv (v := .slice _ _ _) rfl rfl ?_
    refine mv (v := .pointer _) rfl rfl ?_
    first | refine nc rfl rfl ?_ | refine nci rfl rfl ?_
    refine fa rfl fo75_9 rfl ?_
    first | (refine ldb H rfl sc5 (by omega) rfl ?_; intro hu5) | refine ld H rfl sc5 rfl rfl ?_ | refine lc rfl (by assumption) sc5 rfl ?_
    first | refine ia rfl rfl Try.underlying30 sz5_1 (by omega) rfl ?_ | refine iA rfl rfl Try.underlying30 sz5_1 (by omega) rfl ?_
    first | refine stb H rfl rfl sc5 (by omega) (by first | decide | (simp only [List.length_set, List.length_cons, List.length_nil, List.length_replicate, List.length_append, Bs_length]; omega) | omega) (by omega) ?_ | refine st (v := .int .u8 _) H rfl rfl sc5 rfl (by first | decide | (simp only [List.length_set, List.length_cons, List.length_nil, List.length_replicate, List.length_append, Bs_length]; omega) | omega) (by omega) ?_
    clear H; intro w9 H _
    refine nl ?_
    refine then_n ?_
    refine sq ?_
    refine rg ?_
    refine mv (v := .slice _ _ _) rfl rfl ?_
    refine mv (v := .pointer _) rfl rfl ?_
    first | refine nc rfl rfl ?_ | refine nci rfl rfl ?_
    refine fa rfl fo75_10 rfl ?_
    first | (refine ldb H rfl sc5 (by omega) rfl ?_; intro hu6) | refine ld H rfl sc5 rfl rfl ?_ | refine lc rfl (by assumption) sc5 rfl ?_
    first | refine ia rfl rfl Try.underlying30 sz5_1 (by omega) rfl ?_ | refine iA rfl rfl Try.underlying30 sz5_1 (by omega) rfl ?_
    first | refine stb H rfl rfl sc5 (by omega) (by first | decide | (simp only [List.length_set, List.length_cons, List.length_nil, List.length_replicate, List.length_append, Bs_length]; omega) | omega) (by omega) ?_ | refine st (v := .int .u8 _) H rfl rfl sc5 rfl (by first | decide | (simp only [List.length_set, List.length_cons, List.length_nil, List.length_replicate, List.length_append, Bs_length]; omega) | omega) (by omega) ?_
    clear H; intro w10 H _
    refine nl ?_
    refine then_n ?_
    refine sq ?_
    refine rg ?_
    refine mv (v := .slice _ _ _) rfl rfl ?_
    refine mv (v := .pointer _) rfl rfl ?_
    first | refine nc rfl rfl ?_ | refine nci rfl rfl ?_
    refine fa rfl fo75_8 rfl ?_
    first | (refine ldb H rfl sc5 (by omega) rfl ?_; intro hu7) | refine ld H rfl sc5 rfl rfl ?_ | refine lc rfl (by assumption) sc5 rfl ?_
    first | refine ia rfl rfl Try.underlying30 sz5_1 (by omega) rfl ?_ | refine iA rfl rfl Try.underlying30 sz5_1 (by omega) rfl ?_
    first | refine stb H rfl rfl sc5 (by omega) (by first | decide | (simp only [List.length_set, List.length_cons, List.length_nil, List.length_replicate, List.length_append, Bs_length]; omega) | omega) (by omega) ?_ | refine st (v := .int .u8 _) H rfl rfl sc5 rfl (by first | decide | (simp only [List.length_set, List.length_cons, List.length_nil, List.length_replicate, List.length_append, Bs_length]; omega) | omega) (by omega) ?_
    clear H; intro w11 H _
    refine nl ?_
    refine then_n ?_
    refine sq ?_
    refine dr (by kernel_rfl) ?_   -- region 12
    have H := H.drew
    refine hold (fun w' => SH w [] w' [⟨p, .cells (q.cells ++ [y1, y2, y3]).toArray 75 (0, 0), false⟩]) [] ?_
    refine tk (i := 0) rfl (by kernel_rfl) rfl (H.sub (by repeat (first | exact List.Sublist.refl _ | exact List.nil_sublist _ | apply List.Sublist.cons_cons | apply List.Sublist.cons))) (fun w' H => r_lw (ad := ⟨0, 0, none⟩) (vs := []) rfl ag92_0 rfl (by simp)) ?_
    refine tk (i := 1) rfl (by kernel_rfl) rfl (H.sub (by repeat (first | exact List.Sublist.refl _ | exact List.nil_sublist _ | apply List.Sublist.cons_cons | apply List.Sublist.cons))) (fun w' H => r_mv (v := .slice _ _ _) rfl) ?_
    refine tk (i := 2) rfl (by kernel_rfl) rfl (H.sub (by repeat (first | exact List.Sublist.refl _ | exact List.nil_sublist _ | apply List.Sublist.cons_cons | apply List.Sublist.cons))) (fun w' H => r_sllh rfl rfl rfl Try.underlying30 sz5_1 (by first | trivial | omega | (simp; omega))) ?_
    refine tk (i := 3) rfl (by kernel_rfl) rfl (H.sub (by repeat (first | exact List.Sublist.refl _ | exact List.nil_sublist _ | apply List.Sublist.cons_cons | apply List.Sublist.cons))) (fun w' H => r_mv (v := .pointer _) rfl) ?_
    first | refine tk (i := 4) rfl (by kernel_rfl) rfl (H.sub (by repeat (first | exact List.Sublist.refl _ | exact List.nil_sublist _ | apply List.Sublist.cons_cons | apply List.Sublist.cons))) (fun w' H => r_nc rfl) ?_ | refine tk (i := 4) rfl (by kernel_rfl) rfl (H.sub (by repeat (first | exact List.Sublist.refl _ | exact List.nil_sublist _ | apply List.Sublist.cons_cons | apply List.Sublist.cons))) (fun w' H => r_nci rfl) ?_
    refine tk (i := 5) rfl (by kernel_rfl) rfl (H.sub (by repeat (first | exact List.Sublist.refl _ | exact List.nil_sublist _ | apply List.Sublist.cons_cons | apply List.Sublist.cons))) (fun w' H => r_fa rfl fo75_3) ?_
    first | refine tk (i := 6) rfl (by kernel_rfl) rfl (H.sub (by repeat (first | exact List.Sublist.refl _ | exact List.nil_sublist _ | apply List.Sublist.cons_cons | apply List.Sublist.cons))) (fun w' H => r_ld H rfl sc23 rfl) ?_ | refine tk (i := 6) rfl (by kernel_rfl) rfl (H.sub (by repeat (first | exact List.Sublist.refl _ | exact List.nil_sublist _ | apply List.Sublist.cons_cons | apply List.Sublist.cons))) (fun w' H => r_lc rfl (by first | assumption | exact H.fr.cell (by assumption) (by simp)) sc23) ?_ | refine tk (i := 6) rfl (by kernel_rfl) rfl (H.sub (by repeat (first | exact List.Sublist.refl _ | exact List.nil_sublist _ | apply List.Sublist.cons_cons | apply List.Sublist.cons))) (fun w' H => r_ld H rfl sc23 (by assumption)) ?_
    refine fk (i := 7) (by kernel_rfl) rfl rfl rfl ?_
    refine cl ca38 (c_PutUint32 _ _ _ _ _ _ _ _ H.look (by omega) (by first | omega | (simp only [List.length_set, List.length_replicate] at *; omega)) (by omega)) rfl ?_
    rintro _ w12 ⟨rfl, hlen, F, hnew⟩
    replace H := H.put F hnew; clear F hnew
    refine nl ?_
    refine then_n ?_
    refine ⟨H.sub (by repeat (first | exact List.Sublist.refl _ | exact List.nil_sublist _ | apply List.Sublist.cons_cons | apply List.Sublist.cons)), ?_⟩
    refine da (by kernel_rfl) ?_
    refine then_n ?_
    refine sq ?_
    refine dr (by kernel_rfl) ?_   -- region 13
    have H := H.drew
    refine hold (fun w' => SH w [] w' [⟨p, .cells (q.cells ++ [y1, y2, y3]).toArray 75 (0, 0), false⟩]) [] ?_
    refine tk (i := 0) rfl (by kernel_rfl) rfl (H.sub (by repeat (first | exact List.Sublist.refl _ | exact List.nil_sublist _ | apply List.Sublist.cons_cons | apply List.Sublist.cons))) (fun w' H => r_lw (ad := ⟨0, 0, none⟩) (vs := []) rfl ag92_0 rfl (by simp)) ?_
    refine tk (i := 1) rfl (by kernel_rfl) rfl (H.sub (by repeat (first | exact List.Sublist.refl _ | exact List.nil_sublist _ | apply List.Sublist.cons_cons | apply List.Sublist.cons))) (fun w' H => r_mv (v := .slice _ _ _) rfl) ?_
    refine tk (i := 2) rfl (by kernel_rfl) rfl (H.sub (by repeat (first | exact List.Sublist.refl _ | exact List.nil_sublist _ | apply List.Sublist.cons_cons | apply List.Sublist.cons))) (fun w' H => r_sllh rfl rfl rfl Try.underlying30 sz5_1 (by first | trivial | omega | (simp; omega))) ?_
    refine tk (i := 3) rfl (by kernel_rfl) rfl (H.sub (by repeat (first | exact List.Sublist.refl _ | exact List.nil_sublist _ | apply List.Sublist.cons_cons | apply List.Sublist.cons))) (fun w' H => r_mv (v := .pointer _) rfl) ?_
    first | refine tk (i := 4) rfl (by kernel_rfl) rfl (H.sub (by repeat (first | exact List.Sublist.refl _ | exact List.nil_sublist _ | apply List.Sublist.cons_cons | apply List.Sublist.cons))) (fun w' H => r_nc rfl) ?_ | refine tk (i := 4) rfl (by kernel_rfl) rfl (H.sub (by repeat (first | exact List.Sublist.refl _ | exact List.nil_sublist _ | apply List.Sublist.cons_cons | apply List.Sublist.cons))) (fun w' H => r_nci rfl) ?_
    refine tk (i := 5) rfl (by kernel_rfl) rfl (H.sub (by repeat (first | exact List.Sublist.refl _ | exact List.nil_sublist _ | apply List.Sublist.cons_cons | apply List.Sublist.cons))) (fun w' H => r_fa rfl fo75_4) ?_
    first | refine tk (i := 6) rfl (by kernel_rfl) rfl (H.sub (by repeat (first | exact List.Sublist.refl _ | exact List.nil_sublist _ | apply List.Sublist.cons_cons | apply List.Sublist.cons))) (fun w' H => r_ld H rfl sc23 rfl) ?_ | refine tk (i := 6) rfl (by kernel_rfl) rfl (H.sub (by repeat (first | exact List.Sublist.refl _ | exact List.nil_sublist _ | apply List.Sublist.cons_cons | apply List.Sublist.cons))) (fun w' H => r_lc rfl (by first | assumption | exact H.fr.cell (by assumption) (by simp)) sc23) ?_ | refine tk (i := 6) rfl (by kernel_rfl) rfl (H.sub (by repeat (first | exact List.Sublist.refl _ | exact List.nil_sublist _ | apply List.Sublist.cons_cons | apply List.Sublist.cons))) (fun w' H => r_ld H rfl sc23 (by assumption)) ?_
    refine fk (i := 7) (by kernel_rfl) rfl rfl rfl ?_
    refine cl ca38 (c_PutUint32 _ _ _ _ _ _ _ _ H.look (by omega) (by first | omega | (simp only [List.length_set, List.length_replicate] at *; omega)) (by omega)) rfl ?_
    rintro _ w13 ⟨rfl, hlen, F, hnew⟩
    replace H := H.put F hnew; clear F hnew
    refine nl ?_
    refine then_n ?_
    refine ⟨H.sub (by repeat (first | exact List.Sublist.refl _ | exact List.nil_sublist _ | apply List.Sublist.cons_cons | apply List.Sublist.cons)), ?_⟩
    refine da (by kernel_rfl) ?_
    refine then_n ?_
    refine sq ?_
    refine rg ?_
    refine mv (v := .slice _ _ _) rfl rfl ?_
    refine asg (v := .slice _ _ _) rfl rfl ?_
    refine nl ?_
    refine then_n ?_
    refine rt ?_
    refine fin_r ?_
    have e := H.look (b := b1)
    refine ⟨b1, rfl, H.ge, ?_, H.fr⟩
    rw [← pt_bytes]
    exact e

set_option maxRecDepth 100000 in
theorem c_tabBytes (w : World) (t : Nat) (A : Option Addr) (k cap : Nat) (l : PL) (qs : List MP) (hT : TabAt 56 75 w t A k cap l qs) (hk : k ≤ 4) (hok : ∀ q ∈ qs, q.ok) : Calls Try.prog 27 #[.pointer (some ⟨t, 0, none⟩)] w (Ret fun v w' => ∃ b c, v = .slice (some ⟨b, 0, none⟩) 66 c ∧ w.heap.size ≤ b ∧ RB w' (some ⟨b, 0, none⟩) 66 ((arr4 qs qs.length).flatMap MP.bytes ++ [85, 170]) ∧ Fr [] w w') := by
  refine enter (fun ρ => ρ 2) Try.func27 rfl rfl rfl (res1 rfl) ?_
  have H := SH.ro1 hT.tab
  have hl2 := hT.len
  refine sq ?_
  refine rg ?_
  refine asg (v := .slice _ _ _) rfl rfl ?_
  refine nl ?_
  refine then_n ?_
  refine sq ?_
  refine rg ?_
  refine mkB H rfl rfl Try.underlying30 mi5 (by omega) (by omega) (by omega) (by omega) rfl ?_
  clear H; intro b1 w1 hb1 H _
  refine asg (v := .slice _ _ _) rfl rfl ?_
  refine nl ?_
  refine then_n ?_
  refine sq ?_
  refine sq ?_
  refine rg ?_
  refine asg (v := .int .i64 _) rfl rfl ?_
  refine nl ?_
  refine then_n ?_
  refine bk ?_
  refine lpM (α := Nat × Addr × Nat) [3, 4, 5, 7, 8, 9, 10, 11, 12, 13, 14, 15, 16, 17, 18, 19, 20, 21, 22, 23, 24, 25, 26, 27, 28, 29, 30, 31] (fun (i, a, c2) => [(3, .slice (some a) (16 * i) c2), (4, .int .i64 (i : Int))]) (fun (i, a, c2) w' => i ≤ 4 ∧ OR 5 1 w [] w' [⟨t, .cells [.slice A k cap, .int .i64 512, .int .i64 512, .string (str [])].toArray 56 (0, 0), false⟩] (some a) (16 * i) c2 (Bs (((arr4 qs qs.length).take i).flatMap MP.bytes))) (fun (i, a, c2) => 4 - i) (0, ⟨b1, 0, none⟩, 66) ?_ (fC (by first | rfl | exact congrArg (Value.int _) (by first | omega | assumption | (symm; assumption) | (simp; done) | (simp; omega)) | exact congrArg (fun n => Value.slice _ n _) (by first | simp; done | simp; omega)) (fC (by first | rfl | exact congrArg (Value.int _) (by first | omega | assumption | (symm; assumption) | (simp; done) | (simp; omega)) | exact congrArg (fun n => Value.slice _ n _) (by first | simp; done | simp; omega)) (fN _))) ?_   -- loop 1
  · exact ⟨by omega, OR.made (n := 0) H (by decide) (by decide) rfl⟩
  · rintro ⟨i, a, c2⟩ ρx w2 ⟨hi, O⟩
    have H := O.sh
    refine sq ?_
    refine sq ?_
    refine rg ?_
    refine mv (v := .int .i64 _) rfl rfl ?_
    refine lss rfl rfl rfl ?_
    refine nl ?_
    refine then_n ?_
    first | refine cd rfl (fun hc1 => ?_) (fun hc1 => ?_) | refine cn rfl (fun hc1 => ?_) (fun hc1 => ?_)   -- test 1
    · refine sk ?_
      refine then_n ?_
      refine sq ?_
      refine bk ?_
      refine sq ?_
      refine rg ?_
      refine mv (v := .int .i64 _) rfl rfl ?_
      refine mv (v := .pointer _) rfl rfl ?_
      first | refine nc rfl rfl ?_ | refine nci rfl rfl ?_
      refine fa rfl fo56_0 rfl ?_
      first | refine ld H rfl sc54 rfl rfl ?_ | refine lc rfl (by first | assumption | exact H.fr.cell (by assumption) (by simp)) sc54 rfl ?_ | refine ld H rfl sc54 (by assumption) rfl ?_
      refine lnS rfl Try.underlying54 rfl ?_
      refine lss rfl rfl rfl ?_
      refine nl ?_
      refine then_n ?_
      first | refine cd rfl (fun hc2 => ?_) (fun hc2 => ?_) | refine cn rfl (fun hc2 => ?_) (fun hc2 => ?_)   -- test 2
      · obtain ⟨x, hx⟩ : ∃ x, l[i]? = some x := ⟨_, List.getElem?_eq_getElem (by omega)⟩
        obtain ⟨q, hqi, hxq⟩ := hT.q i x hx
        obtain ⟨ad, rfl, hcr⟩ := hT.row i x hx
        have hpt := hT.blk i x hx
        rw [hxq] at hpt
        have hqo := hok q (List.mem_of_getElem? hqi)
        refine sq ?_
        refine rg ?_
        refine mv (v := .pointer _) rfl rfl ?_
        first | refine nc rfl rfl ?_ | refine nci rfl rfl ?_
        refine fa rfl fo56_0 rfl ?_
        first | refine ld H rfl sc54 rfl rfl ?_ | refine lc rfl (by first | assumption | exact H.fr.cell (by assumption) (by simp)) sc54 rfl ?_ | refine ld H rfl sc54 (by assumption) rfl ?_
        refine mv (v := .int .i64 _) rfl rfl ?_
        refine iBN (ad.add i) rfl rfl Try.underlying54 sz57_1 (by omega) (by simp) rfl ?_
        first | refine ld H rfl sc57 rfl rfl ?_ | refine lc rfl (by first | assumption | exact H.fr.cell (by assumption) (by simp)) sc57 rfl ?_ | refine ld H rfl sc57 (by assumption) rfl ?_
        refine cl ca34 (c_ptBytes _ _ q _ _ _ hqo (H.fr.at hpt (by simp))) rfl ?_
        rintro _ w3 ⟨b2, rfl, hb2, ho2, F⟩
        replace H := H.new F hb2 ho2; replace O := O.new F hb2 ho2; clear F ho2
        refine asg (v := .slice _ _ _) rfl rfl ?_
        refine nl ?_
        refine then_n ?_
        refine rg ?_
        refine mv (v := .slice _ _ _) rfl rfl ?_
        refine mv (v := .slice _ _ _) rfl rfl ?_
        refine apS (zs := [.int .u8 0]) (Bs (q.bytes)) O rfl rfl Try.underlying30 ri5 (by simp [MP.bytes_len]) (cells_look H.look) Bs_one (by simp) (by omega) (by unfold maxLen; omega) rfl ?_
        clear O H; intro a9 cp9 w4 O
        have H := O.sh
        refine asg (v := .slice _ _ _) rfl rfl ?_
        refine nl ?_
        refine in_n ?_
        refine then_n ?_
        refine rg ?_
        refine mv (v := .int .i64 _) rfl rfl ?_
        refine add rfl rfl (by first | exact w_i64 (by omega) | exact w_i64 (rng_i64 _) | rfl) rfl ?_
        refine asg (v := .int .i64 _) rfl rfl ?_
        refine nl ?_
        refine loop_n ?_
        exact ⟨(i + 1, a9, cp9), (by (try dsimp only); omega), ⟨by omega, tb_step (arr4_old hqi) (O.sub (by repeat (first | exact List.Sublist.refl _ | exact List.nil_sublist _ | apply List.Sublist.cons_cons | apply List.Sublist.cons)))⟩, (fC (by first | rfl | exact congrArg (Value.int _) (by first | omega | assumption | (symm; assumption) | (simp; done) | (simp; omega)) | exact congrArg (fun n => Value.slice _ n _) (by first | simp; done | simp; omega)) (fC (by first | rfl | exact congrArg (Value.int _) (by first | omega | assumption | (symm; assumption) | (simp; done) | (simp; omega)) | exact congrArg (fun n => Value.slice _ n _) (by first | simp; done | simp; omega)) (fN _))), (by repeat (first | exact Agree.setL rfl Agree.mask | exact Agree.self _ _ | refine Agree.upd rfl ?_ | refine Agree.setL rfl ?_ | refine Agree.mask2 rfl ?_))⟩
      · refine rg ?_
        refine mv (v := .slice _ _ _) rfl rfl ?_
        refine bsl (sz := 1) (out := ?o1) H Try.underlying30 ze5 sz5_1 (by decide) ?f1 rfl ?_
        case f1 =>
          refine FS.one (v := .int .u8 _) rfl rfl rfl (by first | decide | simp) ?_
          refine FS.one (v := .int .u8 _) rfl rfl rfl (by first | decide | simp) ?_
          refine FS.one (v := .int .u8 _) rfl rfl rfl (by first | decide | simp) ?_
          refine FS.one (v := .int .u8 _) rfl rfl rfl (by first | decide | simp) ?_
          refine FS.one (v := .int .u8 _) rfl rfl rfl (by first | decide | simp) ?_
          refine FS.one (v := .int .u8 _) rfl rfl rfl (by first | decide | simp) ?_
          refine FS.one (v := .int .u8 _) rfl rfl rfl (by first | decide | simp) ?_
          refine FS.one (v := .int .u8 _) rfl rfl rfl (by first | decide | simp) ?_
          refine FS.one (v := .int .u8 _) rfl rfl rfl (by first | decide | simp) ?_
          refine FS.one (v := .int .u8 _) rfl rfl rfl (by first | decide | simp) ?_
          refine FS.one (v := .int .u8 _) rfl rfl rfl (by first | decide | simp) ?_
          refine FS.one (v := .int .u8 _) rfl rfl rfl (by first | decide | simp) ?_
          refine FS.one (v := .int .u8 _) rfl rfl rfl (by first | decide | simp) ?_
          refine FS.one (v := .int .u8 _) rfl rfl rfl (by first | decide | simp) ?_
          refine FS.one (v := .int .u8 _) rfl rfl rfl (by first | decide | simp) ?_
          refine FS.one (v := .int .u8 _) rfl rfl rfl (by first | decide | simp) ?_
          exact FS.nil
        intro b3 w5 hb3 H1 F; replace O := O.new F hb3 H1.look; clear H H1 F; have H := O.sh
        refine apS (zs := [.int .u8 0]) (Bs (List.replicate 16 0)) O rfl rfl Try.underlying30 ri5 (by simp [MP.bytes_len]) (cells_look H.look) Bs_one (by simp) (by omega) (by unfold maxLen; omega) rfl ?_
        clear O H; intro a9 cp9 w6 O
        have H := O.sh
        refine asg (v := .slice _ _ _) rfl rfl ?_
        refine nl ?_
        refine in_n ?_
        refine then_n ?_
        refine rg ?_
        refine mv (v := .int .i64 _) rfl rfl ?_
        refine add rfl rfl (by first | exact w_i64 (by omega) | exact w_i64 (rng_i64 _) | rfl) rfl ?_
        refine asg (v := .int .i64 _) rfl rfl ?_
        refine nl ?_
        refine loop_n ?_
        exact ⟨(i + 1, a9, cp9), (by (try dsimp only); omega), ⟨by omega, tb_step (arr4_new (by omega) (by omega)) (zero_bytes ▸ O.sub (by repeat (first | exact List.Sublist.refl _ | exact List.nil_sublist _ | apply List.Sublist.cons_cons | apply List.Sublist.cons)))⟩, (fC (by first | rfl | exact congrArg (Value.int _) (by first | omega | assumption | (symm; assumption) | (simp; done) | (simp; omega)) | exact congrArg (fun n => Value.slice _ n _) (by first | simp; done | simp; omega)) (fC (by first | rfl | exact congrArg (Value.int _) (by first | omega | assumption | (symm; assumption) | (simp; done) | (simp; omega)) | exact congrArg (fun n => Value.slice _ n _) (by first | simp; done | simp; omega)) (fN _))), (by repeat (first | exact Agree.setL rfl Agree.mask | exact Agree.self _ _ | refine Agree.upd rfl ?_ | refine Agree.setL rfl ?_ | refine Agree.mask2 rfl ?_))⟩
    · refine ex ?_
      refine then_e ?_
      refine loop_e ?_
      refine in_hit rfl ?_
      refine then_n ?_
      refine sq ?_
      refine rg ?_
      refine mv (v := .slice _ _ _) rfl rfl ?_
      refine cl ca30 (c_mbrSig _) rfl ?_
      rintro _ w7 ⟨b4, rfl, hb4, ho4, F⟩
      replace H := H.new F hb4 ho4; replace O := O.new F hb4 ho4; clear F ho4
      refine apS (zs := [.int .u8 0]) (Bs ([85, 170])) O rfl rfl Try.underlying30 ri5 (by simp [MP.bytes_len]) (cells_look H.look) Bs_one (by simp) (by omega) (by unfold maxLen; omega) rfl ?_
      clear O H; intro a9 cp9 w8 O
      have H := O.sh
      refine asg (v := .slice _ _ _) rfl rfl ?_
      refine nl ?_
      refine then_n ?_
      refine sq ?_
      refine rg ?_
      refine mv (v := .slice _ _ _) rfl rfl ?_
      refine asg (v := .slice _ _ _) rfl rfl ?_
      refine nl ?_
      refine then_n ?_
      refine rt ?_
      refine fin_r ?_
      obtain rfl : i = 4 := by omega
      have hfl : (arr4 qs qs.length).take 4 = arr4 qs qs.length := List.take_of_length_le (by rw [arr4_len (Nat.le_refl _) (by omega)]; omega)
      rw [hfl, Bs_app] at O
      obtain ⟨b, cur2, hr, h1, h2, h3, h4, H2⟩ := O.blk
      cases hr
      exact ⟨b, _, rfl, H2.ge, O.rb, O.sh.fr⟩

end Go.Proofs.Ytdoiddkogigppaa.X
