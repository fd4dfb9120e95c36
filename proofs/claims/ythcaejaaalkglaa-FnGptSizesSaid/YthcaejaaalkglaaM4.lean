/- Laws and walks on the road to the statement: P4, GptPure, P5, GptRow. -/
import Derived.Test.YthcaejaaalkglaaM3
/- Walks of functions, printed by a program of this claim. -/
namespace Go.Proofs.Ythcaejaaalkglaa.X
set_option linter.unusedVariables false
set_option linter.unusedSimpArgs false
open Go Go.RowKit

namespace P4
theorem ag41_11 : aggB Try.prog 41 11 = true := by kernel_rfl
theorem ag42_44 : aggB Try.prog 42 44 = true := by kernel_rfl
theorem ca22 : callable Try.prog 22 = true := by kernel_rfl
theorem fo41_1 : fieldOff Try.prog 41 1 = some 1 := by kernel_rfl
theorem fo41_2 : fieldOff Try.prog 41 2 = some 2 := by kernel_rfl
theorem fo41_3 : fieldOff Try.prog 41 3 = some 3 := by kernel_rfl
theorem fo41_4 : fieldOff Try.prog 41 4 = some 4 := by kernel_rfl
theorem fo41_5 : fieldOff Try.prog 41 5 = some 5 := by kernel_rfl
theorem mi5 : elemInfo Try.prog 5 = some (.int .u8 0, 1) := by kernel_rfl
theorem sc35 : scalarB Try.prog 35 = true := by kernel_rfl
theorem sc4 : scalarB Try.prog 4 = true := by kernel_rfl
theorem sc5 : scalarB Try.prog 5 = true := by kernel_rfl
theorem sz5_1 : sizeB Try.prog 5 1 = true := by kernel_rfl
theorem ze41 : zeroL Try.prog 41 = some [.int .i64 0, .bool false, .int .u8 0, .int .u32 0, .int .u32 0, .int .u8 0, .int .u8 0, .int .u8 0, .int .u8 0, .int .u8 0, .int .u8 0] := by kernel_rfl

end P4
open P4

set_option maxRecDepth 100000 in
set_option maxHeartbeats 1000000 in
theorem c_putLe (w : World) (b o n c : Nat) (x : Int) (T : TypeId) (cur : List UInt8) (hb : w.heap[b]? = some (.cells (Bs cur).toArray T (0, 0))) (ho : o + n ≤ cur.length) (hn : n ≤ 9223372036854775806) : Calls Try.prog 22 #[.slice (some ⟨b, o, none⟩) n c, .int .u64 x] w (Ret fun v w' => v = .tuple #[] ∧ (pAt cur o (leB n x)).length = cur.length ∧ Fr [b] w w' ∧ w'.heap[b]? = some (.cells (Bs (pAt cur o (leB n x))).toArray T (0, 0))) := by
  refine enter (fun _ => .tuple #[]) Try.func22 rfl rfl rfl (res0 rfl) ?_
  have H := SH.rw1 hb
  refine sq ?_
  refine rg ?_
  refine mv (v := .slice _ _ _) rfl rfl ?_
  refine lnS rfl Try.underlying23 rfl ?_
  refine mv (v := .int .i64 _) rfl rfl ?_
  refine nl ?_
  refine then_n ?_
  refine bk ?_
  have e0 : x = x / 256 ^ 0 := by simp
  refine lpM (α := Nat) [1, 4, 7, 8, 9, 10, 11, 12, 13, 14, 15, 16, 17] (fun i => [(1, .int .u64 (x / 256 ^ i)), (7, .int .i64 (i : Int))]) (fun i w' => i ≤ n ∧ SH w [b] w' [⟨b, .cells (Bs (pAt cur o (leB i x))).toArray T (0, 0), true⟩]) (fun i => n - i) 0 ?_ (fC (by first | rfl | exact congrArg (Value.int _) (by first | omega | assumption | (symm; assumption) | (simp; done) | (simp; omega)) | exact congrArg (fun n => Value.slice _ n _) (by first | omega | (simp; done) | (simp; omega))) (fC (by first | rfl | exact congrArg (Value.int _) (by first | omega | assumption | (symm; assumption) | (simp; done) | (simp; omega)) | exact congrArg (fun n => Value.slice _ n _) (by first | omega | (simp; done) | (simp; omega))) (fN _))) ?_   -- loop 1
  · exact ⟨by omega, by rw [show leB 0 x = [] from rfl, pAt_nil]; exact H⟩
  · rintro i ρx w1 ⟨hi, H⟩
    have hX : (pAt cur o (leB i x)).length = cur.length := pAt_len (by rw [leB_len]; omega)
    have hp0 : (0 : Int) < 256 ^ i := Int.pow_pos (by decide)
    have hq : x / 256 ^ i / 256 = x / 256 ^ (i + 1) := (Int.ediv_ediv .. |>.trans (by rw [if_neg (fun h => absurd h.1 (by omega)), Int.sub_zero, Int.pow_succ]))
    refine sq ?_
    refine rg ?_
    refine lss rfl rfl rfl ?_
    refine nl ?_
    refine then_n ?_
    refine sq ?_
    first | refine cd rfl (fun hc1 => ?_) (fun hc1 => ?_) | refine cn rfl (fun hc1 => ?_) (fun hc1 => ?_)   -- test 1
    · refine sk ?_
      refine then_n ?_
      refine sq ?_
      refine bk ?_
      refine sq ?_
      refine rg ?_
      refine mv (v := .int .i64 _) rfl rfl ?_
      refine asg (v := .int .i64 _) rfl rfl ?_
      refine nl ?_
      refine then_n ?_
      refine sq ?_
      refine rg ?_
      refine mv (v := .slice _ _ _) rfl rfl ?_
      refine mv (v := .int .i64 _) rfl rfl ?_
      refine mv (v := .int .u64 _) rfl rfl ?_
      refine cvi rfl rfl Try.underlying5 (by first | exact w_u8 (by omega) | exact w_u8 (rng_u8 _) | exact m_u8 _) rfl ?_
      first | refine ia rfl rfl Try.underlying23 sz5_1 (by omega) rfl ?_ | refine iA rfl rfl Try.underlying23 sz5_1 (by omega) rfl ?_
      first | refine stb H rfl rfl sc5 (by omega) (by first | decide | (simp only [List.length_set, List.length_cons, List.length_nil, List.length_replicate, List.length_append, Bs_length]; omega) | omega) (by omega) ?_ | refine st (v := .int .u8 _) H rfl rfl sc5 rfl (by first | decide | (simp only [List.length_set, List.length_cons, List.length_nil, List.length_replicate, List.length_append, Bs_length]; omega) | omega) (by omega) ?_
      clear H; intro w2 H _
      refine nl ?_
      refine then_n ?_
      refine rg ?_
      refine mv (v := .int .u64 _) rfl rfl ?_
      refine shrK (s := 8) (p := 256) rfl rfl (by decide) (by decide) rfl rfl ?_
      refine asg (v := .int .u64 _) rfl rfl ?_
      refine nl ?_
      refine in_n ?_
      refine then_n ?_
      refine rg ?_
      refine add rfl rfl (by first | exact w_i64 (by omega) | exact w_i64 (rng_i64 _) | rfl) rfl ?_
      refine mv (v := .int .i64 _) rfl rfl ?_
      refine nl ?_
      refine loop_n ?_
      exact ⟨i + 1, (by (try dsimp only); omega), ⟨by omega, sh_bytes H (by rw [leB_snoc, ← pAt_set (by rw [leB_len]; omega)]; exact set_eq (by rw [leB_len]; omega) rfl)⟩, (fC (by first | rfl | exact congrArg (Value.int _) (by first | omega | assumption | (symm; assumption) | (simp; done) | (simp; omega)) | exact congrArg (fun n => Value.slice _ n _) (by first | omega | (simp; done) | (simp; omega))) (fC (by first | rfl | exact congrArg (Value.int _) (by first | omega | assumption | (symm; assumption) | (simp; done) | (simp; omega)) | exact congrArg (fun n => Value.slice _ n _) (by first | omega | (simp; done) | (simp; omega))) (fN _))), (by repeat (first | exact Agree.setL rfl Agree.mask | exact Agree.self _ _ | refine Agree.upd rfl ?_ | refine Agree.setL rfl ?_ | refine Agree.mask2 rfl ?_))⟩
    · refine ex ?_
      refine then_e ?_
      refine loop_e ?_
      refine in_hit rfl ?_
      refine fin_n ?_
      obtain rfl : i = n := by omega
      exact ⟨rfl, pAt_len (by rw [leB_len]; omega), H.fr, H.look⟩

set_option maxRecDepth 100000 in
set_option maxHeartbeats 1000000 in
theorem c_mbrEncode (w : World) (b n c : Nat) (T : TypeId) (ds : List UInt8) (ps : List MP) (hb : w.heap[b]? = some (.cells (Bs ds).toArray T (0, 0))) (hd : 512 ≤ ds.length) (hn : 512 ≤ n) (hc : n ≤ c) (h4 : ps.length = 4) (hok : ∀ p ∈ ps, p.ok) : Calls Try.prog 10 #[.slice (some ⟨b, 0, none⟩) n c, .agg (ps.flatMap MP.cells).toArray] w (Ret fun v w' => v = .tuple #[] ∧ (mbrB ds ps).length = ds.length ∧ Fr [b] w w' ∧ w'.heap[b]? = some (.cells (Bs (mbrB ds ps)).toArray T (0, 0))) := by
  refine enter (fun _ => .tuple #[]) Try.func10 rfl rfl rfl (res0 rfl) ?_
  have H := SH.rw1 hb
  have hcl : (ps.flatMap MP.cells).length = 44 := by rw [flat_len MP.cells_len, h4]
  refine sq ?_
  refine rg ?_
  refine bx (v := .agg _) H rfl rfl rfl ?_
  clear H; intro b1 w1 hb1 H _
  refine nl ?_
  refine then_n ?_
  refine sq ?_
  refine sq ?_
  refine rg ?_
  refine la H rfl ag42_44 hcl (by rw [List.drop_zero, List.take_of_length_le (by omega)]) rfl ?_
  refine mv (v := .int .i64 _) rfl rfl ?_
  refine nl ?_
  refine then_n ?_
  refine bk ?_
  replace H := H.drop
  refine lpM (α := Nat) [4, 5, 6, 8, 9, 10, 11, 12, 13, 14, 15, 16, 17, 18, 19, 20, 21, 22, 23, 24, 25, 26, 27, 28, 29, 30, 31, 32, 33, 34, 35, 36, 37, 38, 39, 40, 41, 42, 43, 44, 45, 46, 47, 48, 49, 50, 51, 52, 53, 54, 55, 56, 57, 58, 59, 60, 61, 62, 63, 64, 65, 66, 67, 68, 69, 70, 71, 72] (fun i => [(8, .int .i64 (i : Int))]) (fun i w' => i ≤ 4 ∧ SH w [b] w' [⟨b, .cells (Bs (pAt ds 446 ((ps.take i).flatMap MP.bytes))).toArray T (0, 0), true⟩]) (fun i => 4 - i) 0 ?_ (fC (by first | rfl | exact congrArg (Value.int _) (by first | omega | assumption | (symm; assumption) | (simp; done) | (simp; omega)) | exact congrArg (fun n => Value.slice _ n _) (by first | omega | (simp; done) | (simp; omega))) (fN _)) ?_   -- loop 1
  · exact ⟨by omega, by simpa [pAt_nil] using H⟩
  · rintro i ρx w2 ⟨hi, H⟩
    have hk4 : (ps.take i).length ≤ 4 := by simp; omega
    have hX : (pAt ds 446 ((ps.take i).flatMap MP.bytes)).length = ds.length := pAt_len (by rw [flat_len MP.bytes_len]; omega)
    refine sq ?_
    refine rg ?_
    refine lss rfl rfl rfl ?_
    refine nl ?_
    refine then_n ?_
    refine sq ?_
    first | refine cd rfl (fun hc1 => ?_) (fun hc1 => ?_) | refine cn rfl (fun hc1 => ?_) (fun hc1 => ?_)   -- test 1
    · obtain ⟨p, hp⟩ : ∃ p, ps[i]? = some p := ⟨_, List.getElem?_eq_getElem (by omega)⟩
      have hpo := hok p (List.mem_of_getElem? hp)
      have := hpo.c0; have := hpo.c1; have := hpo.c2; have := hpo.c3; have := hpo.c4; have := hpo.c5; have := hpo.ty; have := hpo.st; have := hpo.sz
      refine sk ?_
      refine then_n ?_
      refine sq ?_
      refine bk ?_
      refine sq ?_
      refine rg ?_
      refine mv (v := .int .i64 _) rfl rfl ?_
      refine ixW rfl rfl Try.underlying42 ag41_11 (by omega) (mp_ix hp) rfl ?_
      refine al H ze41 rfl ?_
      clear H; intro b2 w3 hb2 H _
      refine asg (v := .int .i64 _) rfl rfl ?_
      refine sa H rfl rfl ag41_11 rfl rfl (by decide) (by omega) rfl ?_
      clear H; intro w4 H _
      refine nl ?_
      refine then_n ?_
      refine sq ?_
      refine rg ?_
      refine mv (v := .slice _ _ _) rfl rfl ?_
      refine mv (v := .int .i64 _) rfl rfl ?_
      refine mul rfl rfl (by first | exact w_i64 (by omega) | exact w_i64 (rng_i64 _) | rfl) rfl ?_
      refine add rfl rfl (by first | exact w_i64 (by omega) | exact w_i64 (rng_i64 _) | rfl) rfl ?_
      refine mv (v := .int .i64 _) rfl rfl ?_
      refine mul rfl rfl (by first | exact w_i64 (by omega) | exact w_i64 (rng_i64 _) | rfl) rfl ?_
      refine add rfl rfl (by first | exact w_i64 (by omega) | exact w_i64 (rng_i64 _) | rfl) rfl ?_
      refine sllh rfl rfl rfl Try.underlying23 sz5_1 (by first | trivial | omega | (simp; omega)) rfl ?_
      refine asg (v := .slice _ _ _) rfl rfl ?_
      refine nl ?_
      refine then_n ?_
      refine sq ?_
      refine rg ?_
      refine mv (v := .slice _ _ _) rfl rfl ?_
      first | refine ia rfl rfl Try.underlying23 sz5_1 (by omega) rfl ?_ | refine iA rfl rfl Try.underlying23 sz5_1 (by omega) rfl ?_
      first | refine stb H rfl rfl sc5 (by omega) (by first | decide | (simp only [List.length_set, List.length_cons, List.length_nil, List.length_replicate, List.length_append, Bs_length]; omega) | omega) (by omega) ?_ | refine st (v := .int .u8 _) H rfl rfl sc5 rfl (by first | decide | (simp only [List.length_set, List.length_cons, List.length_nil, List.length_replicate, List.length_append, Bs_length]; omega) | omega) (by omega) ?_
      clear H; intro w5 H _
      refine nl ?_
      refine then_n ?_
      refine sq ?_
      refine sq ?_
      refine rg ?_
      refine fa rfl fo41_1 rfl ?_
      first | refine ld H rfl sc4 rfl rfl ?_ | refine lc rfl (by first | assumption | exact H.fr.cell (by assumption) (by simp)) sc4 rfl ?_ | refine ld H rfl sc4 (by assumption) rfl ?_
      refine nl ?_
      refine then_n ?_
      first | refine cd rfl (fun hc2 => ?_) (fun hc2 => ?_) | refine cn rfl (fun hc2 => ?_) (fun hc2 => ?_)   -- test 2
      · refine rg ?_
        refine mv (v := .slice _ _ _) rfl rfl ?_
        first | refine ia rfl rfl Try.underlying23 sz5_1 (by omega) rfl ?_ | refine iA rfl rfl Try.underlying23 sz5_1 (by omega) rfl ?_
        first | refine stb H rfl rfl sc5 (by omega) (by first | decide | (simp only [List.length_set, List.length_cons, List.length_nil, List.length_replicate, List.length_append, Bs_length]; omega) | omega) (by omega) ?_ | refine st (v := .int .u8 _) H rfl rfl sc5 rfl (by first | decide | (simp only [List.length_set, List.length_cons, List.length_nil, List.length_replicate, List.length_append, Bs_length]; omega) | omega) (by omega) ?_
        clear H; intro w6 H _
        refine nl ?_
        refine then_n ?_
        refine sq ?_
        refine dr (by kernel_rfl) ?_   -- region 8
        have H := H.drew
        refine hold (fun w' => SH w [b] w' [⟨b2, .cells p.cells.toArray 41 (0, 0), true⟩]) [] ?_
        refine tk (i := 0) rfl (by kernel_rfl) rfl (H.sub (by repeat (first | exact List.Sublist.refl _ | exact List.nil_sublist _ | apply List.Sublist.cons_cons | apply List.Sublist.cons))) (fun w' H => r_mv (v := .slice _ _ _) rfl) ?_
        refine tk (i := 1) rfl (by kernel_rfl) rfl (H.sub (by repeat (first | exact List.Sublist.refl _ | exact List.nil_sublist _ | apply List.Sublist.cons_cons | apply List.Sublist.cons))) (fun w' H => r_mv (v := .slice _ _ _) rfl) ?_
        refine tk (i := 2) rfl (by kernel_rfl) rfl (H.sub (by repeat (first | exact List.Sublist.refl _ | exact List.nil_sublist _ | apply List.Sublist.cons_cons | apply List.Sublist.cons))) (fun w' H => r_mv (v := .slice _ _ _) rfl) ?_
        refine tk (i := 3) rfl (by kernel_rfl) rfl (H.sub (by repeat (first | exact List.Sublist.refl _ | exact List.nil_sublist _ | apply List.Sublist.cons_cons | apply List.Sublist.cons))) (fun w' H => r_mv (v := .slice _ _ _) rfl) ?_
        refine tk (i := 4) rfl (by kernel_rfl) rfl (H.sub (by repeat (first | exact List.Sublist.refl _ | exact List.nil_sublist _ | apply List.Sublist.cons_cons | apply List.Sublist.cons))) (fun w' H => r_fa rfl fo41_5) ?_
        first | refine tk (i := 5) rfl (by kernel_rfl) rfl (H.sub (by repeat (first | exact List.Sublist.refl _ | exact List.nil_sublist _ | apply List.Sublist.cons_cons | apply List.Sublist.cons))) (fun w' H => r_iy rfl rfl Try.underlying39 sz5_1 (by omega)) ?_ | refine tk (i := 5) rfl (by kernel_rfl) rfl (H.sub (by repeat (first | exact List.Sublist.refl _ | exact List.nil_sublist _ | apply List.Sublist.cons_cons | apply List.Sublist.cons))) (fun w' H => r_iyB rfl rfl Try.underlying39 sz5_1 (by omega)) ?_
        first | refine tk (i := 6) rfl (by kernel_rfl) rfl (H.sub (by repeat (first | exact List.Sublist.refl _ | exact List.nil_sublist _ | apply List.Sublist.cons_cons | apply List.Sublist.cons))) (fun w' H => r_ldb H rfl sc5 (by omega)) ?_ | refine tk (i := 6) rfl (by kernel_rfl) rfl (H.sub (by repeat (first | exact List.Sublist.refl _ | exact List.nil_sublist _ | apply List.Sublist.cons_cons | apply List.Sublist.cons))) (fun w' H => r_ld H rfl sc5 rfl) ?_ | refine tk (i := 6) rfl (by kernel_rfl) rfl (H.sub (by repeat (first | exact List.Sublist.refl _ | exact List.nil_sublist _ | apply List.Sublist.cons_cons | apply List.Sublist.cons))) (fun w' H => r_lc rfl (by first | assumption | exact H.fr.cell (by assumption) (by simp)) sc5) ?_
        refine tk (i := 7) rfl (by kernel_rfl) rfl (H.sub (by repeat (first | exact List.Sublist.refl _ | exact List.nil_sublist _ | apply List.Sublist.cons_cons | apply List.Sublist.cons))) (fun w' H => r_fa rfl fo41_5) ?_
        first | refine tk (i := 8) rfl (by kernel_rfl) rfl (H.sub (by repeat (first | exact List.Sublist.refl _ | exact List.nil_sublist _ | apply List.Sublist.cons_cons | apply List.Sublist.cons))) (fun w' H => r_iy rfl rfl Try.underlying39 sz5_1 (by omega)) ?_ | refine tk (i := 8) rfl (by kernel_rfl) rfl (H.sub (by repeat (first | exact List.Sublist.refl _ | exact List.nil_sublist _ | apply List.Sublist.cons_cons | apply List.Sublist.cons))) (fun w' H => r_iyB rfl rfl Try.underlying39 sz5_1 (by omega)) ?_
        first | refine tk (i := 9) rfl (by kernel_rfl) rfl (H.sub (by repeat (first | exact List.Sublist.refl _ | exact List.nil_sublist _ | apply List.Sublist.cons_cons | apply List.Sublist.cons))) (fun w' H => r_ldb H rfl sc5 (by omega)) ?_ | refine tk (i := 9) rfl (by kernel_rfl) rfl (H.sub (by repeat (first | exact List.Sublist.refl _ | exact List.nil_sublist _ | apply List.Sublist.cons_cons | apply List.Sublist.cons))) (fun w' H => r_ld H rfl sc5 rfl) ?_ | refine tk (i := 9) rfl (by kernel_rfl) rfl (H.sub (by repeat (first | exact List.Sublist.refl _ | exact List.nil_sublist _ | apply List.Sublist.cons_cons | apply List.Sublist.cons))) (fun w' H => r_lc rfl (by first | assumption | exact H.fr.cell (by assumption) (by simp)) sc5) ?_
        refine tk (i := 10) rfl (by kernel_rfl) rfl (H.sub (by repeat (first | exact List.Sublist.refl _ | exact List.nil_sublist _ | apply List.Sublist.cons_cons | apply List.Sublist.cons))) (fun w' H => r_fa rfl fo41_5) ?_
        first | refine tk (i := 11) rfl (by kernel_rfl) rfl (H.sub (by repeat (first | exact List.Sublist.refl _ | exact List.nil_sublist _ | apply List.Sublist.cons_cons | apply List.Sublist.cons))) (fun w' H => r_iy rfl rfl Try.underlying39 sz5_1 (by omega)) ?_ | refine tk (i := 11) rfl (by kernel_rfl) rfl (H.sub (by repeat (first | exact List.Sublist.refl _ | exact List.nil_sublist _ | apply List.Sublist.cons_cons | apply List.Sublist.cons))) (fun w' H => r_iyB rfl rfl Try.underlying39 sz5_1 (by omega)) ?_
        first | refine tk (i := 12) rfl (by kernel_rfl) rfl (H.sub (by repeat (first | exact List.Sublist.refl _ | exact List.nil_sublist _ | apply List.Sublist.cons_cons | apply List.Sublist.cons))) (fun w' H => r_ldb H rfl sc5 (by omega)) ?_ | refine tk (i := 12) rfl (by kernel_rfl) rfl (H.sub (by repeat (first | exact List.Sublist.refl _ | exact List.nil_sublist _ | apply List.Sublist.cons_cons | apply List.Sublist.cons))) (fun w' H => r_ld H rfl sc5 rfl) ?_ | refine tk (i := 12) rfl (by kernel_rfl) rfl (H.sub (by repeat (first | exact List.Sublist.refl _ | exact List.nil_sublist _ | apply List.Sublist.cons_cons | apply List.Sublist.cons))) (fun w' H => r_lc rfl (by first | assumption | exact H.fr.cell (by assumption) (by simp)) sc5) ?_
        refine tk (i := 13) rfl (by kernel_rfl) rfl (H.sub (by repeat (first | exact List.Sublist.refl _ | exact List.nil_sublist _ | apply List.Sublist.cons_cons | apply List.Sublist.cons))) (fun w' H => r_fa rfl fo41_2) ?_
        first | refine tk (i := 14) rfl (by kernel_rfl) rfl (H.sub (by repeat (first | exact List.Sublist.refl _ | exact List.nil_sublist _ | apply List.Sublist.cons_cons | apply List.Sublist.cons))) (fun w' H => r_ldb H rfl sc5 (by omega)) ?_ | refine tk (i := 14) rfl (by kernel_rfl) rfl (H.sub (by repeat (first | exact List.Sublist.refl _ | exact List.nil_sublist _ | apply List.Sublist.cons_cons | apply List.Sublist.cons))) (fun w' H => r_ld H rfl sc5 rfl) ?_ | refine tk (i := 14) rfl (by kernel_rfl) rfl (H.sub (by repeat (first | exact List.Sublist.refl _ | exact List.nil_sublist _ | apply List.Sublist.cons_cons | apply List.Sublist.cons))) (fun w' H => r_lc rfl (by first | assumption | exact H.fr.cell (by assumption) (by simp)) sc5) ?_
        first | refine tk (i := 15) rfl (by kernel_rfl) rfl (H.sub (by repeat (first | exact List.Sublist.refl _ | exact List.nil_sublist _ | apply List.Sublist.cons_cons | apply List.Sublist.cons))) (fun w' H => r_ia rfl rfl Try.underlying23 sz5_1 (by omega)) ?_ | refine tk (i := 15) rfl (by kernel_rfl) rfl (H.sub (by repeat (first | exact List.Sublist.refl _ | exact List.nil_sublist _ | apply List.Sublist.cons_cons | apply List.Sublist.cons))) (fun w' H => r_iA rfl rfl Try.underlying23 sz5_1 (by omega)) ?_
        refine fk (i := 16) (by kernel_rfl) rfl rfl rfl ?_
        first | refine stb H rfl rfl sc5 (by omega) (by first | decide | (simp only [List.length_set, List.length_cons, List.length_nil, List.length_replicate, List.length_append, Bs_length]; omega) | omega) (by omega) ?_ | refine st (v := .int .u8 _) H rfl rfl sc5 rfl (by first | decide | (simp only [List.length_set, List.length_cons, List.length_nil, List.length_replicate, List.length_append, Bs_length]; omega) | omega) (by omega) ?_
        clear H; intro w7 H _
        refine nl ?_
        refine then_n ?_
        refine ⟨H.sub (by repeat (first | exact List.Sublist.refl _ | exact List.nil_sublist _ | apply List.Sublist.cons_cons | apply List.Sublist.cons)), ?_⟩
        first | refine tk (i := 17) rfl (by kernel_rfl) rfl (H.sub (by repeat (first | exact List.Sublist.refl _ | exact List.nil_sublist _ | apply List.Sublist.cons_cons | apply List.Sublist.cons))) (fun w' H => r_ia rfl rfl Try.underlying23 sz5_1 (by omega)) ?_ | refine tk (i := 17) rfl (by kernel_rfl) rfl (H.sub (by repeat (first | exact List.Sublist.refl _ | exact List.nil_sublist _ | apply List.Sublist.cons_cons | apply List.Sublist.cons))) (fun w' H => r_iA rfl rfl Try.underlying23 sz5_1 (by omega)) ?_
        refine fk (i := 18) (by kernel_rfl) rfl rfl rfl ?_
        first | refine stb H rfl rfl sc5 (by omega) (by first | decide | (simp only [List.length_set, List.length_cons, List.length_nil, List.length_replicate, List.length_append, Bs_length]; omega) | omega) (by omega) ?_ | refine st (v := .int .u8 _) H rfl rfl sc5 rfl (by first | decide | (simp only [List.length_set, List.length_cons, List.length_nil, List.length_replicate, List.length_append, Bs_length]; omega) | omega) (by omega) ?_
        clear H; intro w8 H _
        refine nl ?_
        refine then_n ?_
        refine ⟨H.sub (by repeat (first | exact List.Sublist.refl _ | exact List.nil_sublist _ | apply List.Sublist.cons_cons | apply List.Sublist.cons)), ?_⟩
        first | refine tk (i := 19) rfl (by kernel_rfl) rfl (H.sub (by repeat (first | exact List.Sublist.refl _ | exact List.nil_sublist _ | apply List.Sublist.cons_cons | apply List.Sublist.cons))) (fun w' H => r_ia rfl rfl Try.underlying23 sz5_1 (by omega)) ?_ | refine tk (i := 19) rfl (by kernel_rfl) rfl (H.sub (by repeat (first | exact List.Sublist.refl _ | exact List.nil_sublist _ | apply List.Sublist.cons_cons | apply List.Sublist.cons))) (fun w' H => r_iA rfl rfl Try.underlying23 sz5_1 (by omega)) ?_
        refine fk (i := 20) (by kernel_rfl) rfl rfl rfl ?_
        first | refine stb H rfl rfl sc5 (by omega) (by first | decide | (simp only [List.length_set, List.length_cons, List.length_nil, List.length_replicate, List.length_append, Bs_length]; omega) | omega) (by omega) ?_ | refine st (v := .int .u8 _) H rfl rfl sc5 rfl (by first | decide | (simp only [List.length_set, List.length_cons, List.length_nil, List.length_replicate, List.length_append, Bs_length]; omega) | omega) (by omega) ?_
        clear H; intro w9 H _
        refine nl ?_
        refine then_n ?_
        refine ⟨H.sub (by repeat (first | exact List.Sublist.refl _ | exact List.nil_sublist _ | apply List.Sublist.cons_cons | apply List.Sublist.cons)), ?_⟩
        first | refine tk (i := 21) rfl (by kernel_rfl) rfl (H.sub (by repeat (first | exact List.Sublist.refl _ | exact List.nil_sublist _ | apply List.Sublist.cons_cons | apply List.Sublist.cons))) (fun w' H => r_ia rfl rfl Try.underlying23 sz5_1 (by omega)) ?_ | refine tk (i := 21) rfl (by kernel_rfl) rfl (H.sub (by repeat (first | exact List.Sublist.refl _ | exact List.nil_sublist _ | apply List.Sublist.cons_cons | apply List.Sublist.cons))) (fun w' H => r_iA rfl rfl Try.underlying23 sz5_1 (by omega)) ?_
        refine fk (i := 22) (by kernel_rfl) rfl rfl rfl ?_
        first | refine stb H rfl rfl sc5 (by omega) (by first | decide | (simp only [List.length_set, List.length_cons, List.length_nil, List.length_replicate, List.length_append, Bs_length]; omega) | omega) (by omega) ?_ | refine st (v := .int .u8 _) H rfl rfl sc5 rfl (by first | decide | (simp only [List.length_set, List.length_cons, List.length_nil, List.length_replicate, List.length_append, Bs_length]; omega) | omega) (by omega) ?_
        clear H; intro w10 H _
        refine nl ?_
        refine then_n ?_
        refine ⟨H.sub (by repeat (first | exact List.Sublist.refl _ | exact List.nil_sublist _ | apply List.Sublist.cons_cons | apply List.Sublist.cons)), ?_⟩
        refine da (by kernel_rfl) ?_
        refine then_n ?_
        refine sq ?_
        refine dr (by kernel_rfl) ?_   -- region 9
        have H := H.drew
        refine hold (fun w' => SH w [b] w' [⟨b2, .cells p.cells.toArray 41 (0, 0), true⟩]) [] ?_
        refine tk (i := 0) rfl (by kernel_rfl) rfl (H.sub (by repeat (first | exact List.Sublist.refl _ | exact List.nil_sublist _ | apply List.Sublist.cons_cons | apply List.Sublist.cons))) (fun w' H => r_mv (v := .slice _ _ _) rfl) ?_
        refine tk (i := 1) rfl (by kernel_rfl) rfl (H.sub (by repeat (first | exact List.Sublist.refl _ | exact List.nil_sublist _ | apply List.Sublist.cons_cons | apply List.Sublist.cons))) (fun w' H => r_mv (v := .slice _ _ _) rfl) ?_
        refine tk (i := 2) rfl (by kernel_rfl) rfl (H.sub (by repeat (first | exact List.Sublist.refl _ | exact List.nil_sublist _ | apply List.Sublist.cons_cons | apply List.Sublist.cons))) (fun w' H => r_mv (v := .slice _ _ _) rfl) ?_
        refine tk (i := 3) rfl (by kernel_rfl) rfl (H.sub (by repeat (first | exact List.Sublist.refl _ | exact List.nil_sublist _ | apply List.Sublist.cons_cons | apply List.Sublist.cons))) (fun w' H => r_fa rfl fo41_5) ?_
        first | refine tk (i := 4) rfl (by kernel_rfl) rfl (H.sub (by repeat (first | exact List.Sublist.refl _ | exact List.nil_sublist _ | apply List.Sublist.cons_cons | apply List.Sublist.cons))) (fun w' H => r_iy rfl rfl Try.underlying39 sz5_1 (by omega)) ?_ | refine tk (i := 4) rfl (by kernel_rfl) rfl (H.sub (by repeat (first | exact List.Sublist.refl _ | exact List.nil_sublist _ | apply List.Sublist.cons_cons | apply List.Sublist.cons))) (fun w' H => r_iyB rfl rfl Try.underlying39 sz5_1 (by omega)) ?_
        first | refine tk (i := 5) rfl (by kernel_rfl) rfl (H.sub (by repeat (first | exact List.Sublist.refl _ | exact List.nil_sublist _ | apply List.Sublist.cons_cons | apply List.Sublist.cons))) (fun w' H => r_ldb H rfl sc5 (by omega)) ?_ | refine tk (i := 5) rfl (by kernel_rfl) rfl (H.sub (by repeat (first | exact List.Sublist.refl _ | exact List.nil_sublist _ | apply List.Sublist.cons_cons | apply List.Sublist.cons))) (fun w' H => r_ld H rfl sc5 rfl) ?_ | refine tk (i := 5) rfl (by kernel_rfl) rfl (H.sub (by repeat (first | exact List.Sublist.refl _ | exact List.nil_sublist _ | apply List.Sublist.cons_cons | apply List.Sublist.cons))) (fun w' H => r_lc rfl (by first | assumption | exact H.fr.cell (by assumption) (by simp)) sc5) ?_
        refine tk (i := 6) rfl (by kernel_rfl) rfl (H.sub (by repeat (first | exact List.Sublist.refl _ | exact List.nil_sublist _ | apply List.Sublist.cons_cons | apply List.Sublist.cons))) (fun w' H => r_fa rfl fo41_5) ?_
        first | refine tk (i := 7) rfl (by kernel_rfl) rfl (H.sub (by repeat (first | exact List.Sublist.refl _ | exact List.nil_sublist _ | apply List.Sublist.cons_cons | apply List.Sublist.cons))) (fun w' H => r_iy rfl rfl Try.underlying39 sz5_1 (by omega)) ?_ | refine tk (i := 7) rfl (by kernel_rfl) rfl (H.sub (by repeat (first | exact List.Sublist.refl _ | exact List.nil_sublist _ | apply List.Sublist.cons_cons | apply List.Sublist.cons))) (fun w' H => r_iyB rfl rfl Try.underlying39 sz5_1 (by omega)) ?_
        first | refine tk (i := 8) rfl (by kernel_rfl) rfl (H.sub (by repeat (first | exact List.Sublist.refl _ | exact List.nil_sublist _ | apply List.Sublist.cons_cons | apply List.Sublist.cons))) (fun w' H => r_ldb H rfl sc5 (by omega)) ?_ | refine tk (i := 8) rfl (by kernel_rfl) rfl (H.sub (by repeat (first | exact List.Sublist.refl _ | exact List.nil_sublist _ | apply List.Sublist.cons_cons | apply List.Sublist.cons))) (fun w' H => r_ld H rfl sc5 rfl) ?_ | refine tk (i := 8) rfl (by kernel_rfl) rfl (H.sub (by repeat (first | exact List.Sublist.refl _ | exact List.nil_sublist _ | apply List.Sublist.cons_cons | apply List.Sublist.cons))) (fun w' H => r_lc rfl (by first | assumption | exact H.fr.cell (by assumption) (by simp)) sc5) ?_
        refine tk (i := 9) rfl (by kernel_rfl) rfl (H.sub (by repeat (first | exact List.Sublist.refl _ | exact List.nil_sublist _ | apply List.Sublist.cons_cons | apply List.Sublist.cons))) (fun w' H => r_fa rfl fo41_5) ?_
        first | refine tk (i := 10) rfl (by kernel_rfl) rfl (H.sub (by repeat (first | exact List.Sublist.refl _ | exact List.nil_sublist _ | apply List.Sublist.cons_cons | apply List.Sublist.cons))) (fun w' H => r_iy rfl rfl Try.underlying39 sz5_1 (by omega)) ?_ | refine tk (i := 10) rfl (by kernel_rfl) rfl (H.sub (by repeat (first | exact List.Sublist.refl _ | exact List.nil_sublist _ | apply List.Sublist.cons_cons | apply List.Sublist.cons))) (fun w' H => r_iyB rfl rfl Try.underlying39 sz5_1 (by omega)) ?_
        first | refine tk (i := 11) rfl (by kernel_rfl) rfl (H.sub (by repeat (first | exact List.Sublist.refl _ | exact List.nil_sublist _ | apply List.Sublist.cons_cons | apply List.Sublist.cons))) (fun w' H => r_ldb H rfl sc5 (by omega)) ?_ | refine tk (i := 11) rfl (by kernel_rfl) rfl (H.sub (by repeat (first | exact List.Sublist.refl _ | exact List.nil_sublist _ | apply List.Sublist.cons_cons | apply List.Sublist.cons))) (fun w' H => r_ld H rfl sc5 rfl) ?_ | refine tk (i := 11) rfl (by kernel_rfl) rfl (H.sub (by repeat (first | exact List.Sublist.refl _ | exact List.nil_sublist _ | apply List.Sublist.cons_cons | apply List.Sublist.cons))) (fun w' H => r_lc rfl (by first | assumption | exact H.fr.cell (by assumption) (by simp)) sc5) ?_
        first | refine tk (i := 12) rfl (by kernel_rfl) rfl (H.sub (by repeat (first | exact List.Sublist.refl _ | exact List.nil_sublist _ | apply List.Sublist.cons_cons | apply List.Sublist.cons))) (fun w' H => r_ia rfl rfl Try.underlying23 sz5_1 (by omega)) ?_ | refine tk (i := 12) rfl (by kernel_rfl) rfl (H.sub (by repeat (first | exact List.Sublist.refl _ | exact List.nil_sublist _ | apply List.Sublist.cons_cons | apply List.Sublist.cons))) (fun w' H => r_iA rfl rfl Try.underlying23 sz5_1 (by omega)) ?_
        refine fk (i := 13) (by kernel_rfl) rfl rfl rfl ?_
        first | refine stb H rfl rfl sc5 (by omega) (by first | decide | (simp only [List.length_set, List.length_cons, List.length_nil, List.length_replicate, List.length_append, Bs_length]; omega) | omega) (by omega) ?_ | refine st (v := .int .u8 _) H rfl rfl sc5 rfl (by first | decide | (simp only [List.length_set, List.length_cons, List.length_nil, List.length_replicate, List.length_append, Bs_length]; omega) | omega) (by omega) ?_
        clear H; intro w11 H _
        refine nl ?_
        refine then_n ?_
        refine ⟨H.sub (by repeat (first | exact List.Sublist.refl _ | exact List.nil_sublist _ | apply List.Sublist.cons_cons | apply List.Sublist.cons)), ?_⟩
        first | refine tk (i := 14) rfl (by kernel_rfl) rfl (H.sub (by repeat (first | exact List.Sublist.refl _ | exact List.nil_sublist _ | apply List.Sublist.cons_cons | apply List.Sublist.cons))) (fun w' H => r_ia rfl rfl Try.underlying23 sz5_1 (by omega)) ?_ | refine tk (i := 14) rfl (by kernel_rfl) rfl (H.sub (by repeat (first | exact List.Sublist.refl _ | exact List.nil_sublist _ | apply List.Sublist.cons_cons | apply List.Sublist.cons))) (fun w' H => r_iA rfl rfl Try.underlying23 sz5_1 (by omega)) ?_
        refine fk (i := 15) (by kernel_rfl) rfl rfl rfl ?_
        first | refine stb H rfl rfl sc5 (by omega) (by first | decide | (simp only [List.length_set, List.length_cons, List.length_nil, List.length_replicate, List.length_append, Bs_length]; omega) | omega) (by omega) ?_ | refine st (v := .int .u8 _) H rfl rfl sc5 rfl (by first | decide | (simp only [List.length_set, List.length_cons, List.length_nil, List.length_replicate, List.length_append, Bs_length]; omega) | omega) (by omega) ?_
        clear H; intro w12 H _
        refine nl ?_
        refine then_n ?_
        refine ⟨H.sub (by repeat (first | exact List.Sublist.refl _ | exact List.nil_sublist _ | apply List.Sublist.cons_cons | apply List.Sublist.cons)), ?_⟩
        first | refine tk (i := 16) rfl (by kernel_rfl) rfl (H.sub (by repeat (first | exact List.Sublist.refl _ | exact List.nil_sublist _ | apply List.Sublist.cons_cons | apply List.Sublist.cons))) (fun w' H => r_ia rfl rfl Try.underlying23 sz5_1 (by omega)) ?_ | refine tk (i := 16) rfl (by kernel_rfl) rfl (H.sub (by repeat (first | exact List.Sublist.refl _ | exact List.nil_sublist _ | apply List.Sublist.cons_cons | apply List.Sublist.cons))) (fun w' H => r_iA rfl rfl Try.underlying23 sz5_1 (by omega)) ?_
        refine fk (i := 17) (by kernel_rfl) rfl rfl rfl ?_
        first | refine stb H rfl rfl sc5 (by omega) (by first | decide | (simp only [List.length_set, List.length_cons, List.length_nil, List.length_replicate, List.length_append, Bs_length]; omega) | omega) (by omega) ?_ | refine st (v := .int .u8 _) H rfl rfl sc5 rfl (by first | decide | (simp only [List.length_set, List.length_cons, List.length_nil, List.length_replicate, List.length_append, Bs_length]; omega) | omega) (by omega) ?_
        clear H; intro w13 H _
        refine nl ?_
        refine then_n ?_
        refine ⟨H.sub (by repeat (first | exact List.Sublist.refl _ | exact List.nil_sublist _ | apply List.Sublist.cons_cons | apply List.Sublist.cons)), ?_⟩
        refine da (by kernel_rfl) ?_
        refine then_n ?_
        refine sq ?_
        refine dr (by kernel_rfl) ?_   -- region 10
        have H := H.drew
        refine hold (fun w' => SH w [b] w' [⟨b2, .cells p.cells.toArray 41 (0, 0), true⟩]) [] ?_
        refine tk (i := 0) rfl (by kernel_rfl) rfl (H.sub (by repeat (first | exact List.Sublist.refl _ | exact List.nil_sublist _ | apply List.Sublist.cons_cons | apply List.Sublist.cons))) (fun w' H => r_mv (v := .slice _ _ _) rfl) ?_
        refine tk (i := 1) rfl (by kernel_rfl) rfl (H.sub (by repeat (first | exact List.Sublist.refl _ | exact List.nil_sublist _ | apply List.Sublist.cons_cons | apply List.Sublist.cons))) (fun w' H => r_sllh rfl rfl rfl Try.underlying23 sz5_1 (by first | trivial | omega | (simp; omega))) ?_
        refine tk (i := 2) rfl (by kernel_rfl) rfl (H.sub (by repeat (first | exact List.Sublist.refl _ | exact List.nil_sublist _ | apply List.Sublist.cons_cons | apply List.Sublist.cons))) (fun w' H => r_fa rfl fo41_3) ?_
        first | refine tk (i := 3) rfl (by kernel_rfl) rfl (H.sub (by repeat (first | exact List.Sublist.refl _ | exact List.nil_sublist _ | apply List.Sublist.cons_cons | apply List.Sublist.cons))) (fun w' H => r_ld H rfl sc35 rfl) ?_ | refine tk (i := 3) rfl (by kernel_rfl) rfl (H.sub (by repeat (first | exact List.Sublist.refl _ | exact List.nil_sublist _ | apply List.Sublist.cons_cons | apply List.Sublist.cons))) (fun w' H => r_lc rfl (by first | assumption | exact H.fr.cell (by assumption) (by simp)) sc35) ?_ | refine tk (i := 3) rfl (by kernel_rfl) rfl (H.sub (by repeat (first | exact List.Sublist.refl _ | exact List.nil_sublist _ | apply List.Sublist.cons_cons | apply List.Sublist.cons))) (fun w' H => r_ld H rfl sc35 (by assumption)) ?_
        refine tk (i := 4) rfl (by kernel_rfl) rfl (H.sub (by repeat (first | exact List.Sublist.refl _ | exact List.nil_sublist _ | apply List.Sublist.cons_cons | apply List.Sublist.cons))) (fun w' H => r_cvi rfl rfl Try.underlying30 (by first | exact w_u64 (by omega) | exact w_u64 (rng_u64 _) | exact m_u64 _)) ?_
        refine fk (i := 5) (by kernel_rfl) rfl rfl rfl ?_
        refine cl ca22 (c_putLe _ _ _ _ _ _ _ _ H.look (by first | omega | ((try simp only [pAt_length, leB_len, gB_len, List.length_set, List.length_replicate]); omega)) (by omega)) rfl ?_
        rintro _ w14 ⟨rfl, hlen, F, hnew⟩
        replace H := H.put F hnew; clear F hnew
        refine nl ?_
        refine then_n ?_
        refine ⟨H.sub (by repeat (first | exact List.Sublist.refl _ | exact List.nil_sublist _ | apply List.Sublist.cons_cons | apply List.Sublist.cons)), ?_⟩
        refine da (by kernel_rfl) ?_
        refine then_n ?_
        refine dr (by kernel_rfl) ?_   -- region 11
        have H := H.drew
        refine hold (fun w' => SH w [b] w' [⟨b2, .cells p.cells.toArray 41 (0, 0), true⟩]) [] ?_
        refine tk (i := 0) rfl (by kernel_rfl) rfl (H.sub (by repeat (first | exact List.Sublist.refl _ | exact List.nil_sublist _ | apply List.Sublist.cons_cons | apply List.Sublist.cons))) (fun w' H => r_mv (v := .slice _ _ _) rfl) ?_
        refine tk (i := 1) rfl (by kernel_rfl) rfl (H.sub (by repeat (first | exact List.Sublist.refl _ | exact List.nil_sublist _ | apply List.Sublist.cons_cons | apply List.Sublist.cons))) (fun w' H => r_sllh rfl rfl rfl Try.underlying23 sz5_1 (by first | trivial | omega | (simp; omega))) ?_
        refine tk (i := 2) rfl (by kernel_rfl) rfl (H.sub (by repeat (first | exact List.Sublist.refl _ | exact List.nil_sublist _ | apply List.Sublist.cons_cons | apply List.Sublist.cons))) (fun w' H => r_fa rfl fo41_4) ?_
        first | refine tk (i := 3) rfl (by kernel_rfl) rfl (H.sub (by repeat (first | exact List.Sublist.refl _ | exact List.nil_sublist _ | apply List.Sublist.cons_cons | apply List.Sublist.cons))) (fun w' H => r_ld H rfl sc35 rfl) ?_ | refine tk (i := 3) rfl (by kernel_rfl) rfl (H.sub (by repeat (first | exact List.Sublist.refl _ | exact List.nil_sublist _ | apply List.Sublist.cons_cons | apply List.Sublist.cons))) (fun w' H => r_lc rfl (by first | assumption | exact H.fr.cell (by assumption) (by simp)) sc35) ?_ | refine tk (i := 3) rfl (by kernel_rfl) rfl (H.sub (by repeat (first | exact List.Sublist.refl _ | exact List.nil_sublist _ | apply List.Sublist.cons_cons | apply List.Sublist.cons))) (fun w' H => r_ld H rfl sc35 (by assumption)) ?_
        refine tk (i := 4) rfl (by kernel_rfl) rfl (H.sub (by repeat (first | exact List.Sublist.refl _ | exact List.nil_sublist _ | apply List.Sublist.cons_cons | apply List.Sublist.cons))) (fun w' H => r_cvi rfl rfl Try.underlying30 (by first | exact w_u64 (by omega) | exact w_u64 (rng_u64 _) | exact m_u64 _)) ?_
        refine fk (i := 5) (by kernel_rfl) rfl rfl rfl ?_
        refine cl ca22 (c_putLe _ _ _ _ _ _ _ _ H.look (by first | omega | ((try simp only [pAt_length, leB_len, gB_len, List.length_set, List.length_replicate]); omega)) (by omega)) rfl ?_
        rintro _ w15 ⟨rfl, hlen, F, hnew⟩
        replace H := H.put F hnew; clear F hnew
        refine nl ?_
        refine then_n ?_
        refine ⟨H.sub (by repeat (first | exact List.Sublist.refl _ | exact List.nil_sublist _ | apply List.Sublist.cons_cons | apply List.Sublist.cons)), ?_⟩
        refine da (by kernel_rfl) ?_
        refine in_n ?_
        refine then_n ?_
        refine rg ?_
        refine add rfl rfl (by first | exact w_i64 (by omega) | exact w_i64 (rng_i64 _) | rfl) rfl ?_
        refine mv (v := .int .i64 _) rfl rfl ?_
        refine nl ?_
        refine loop_n ?_
        exact ⟨i + 1, (by (try dsimp only); omega), ⟨by omega, sh_bytes H.drop ((entry_put (X := pAt ds 446 ((ps.take i).flatMap MP.bytes)) (o := 446 + 16 * i) (by omega) (set_set_eq (by omega) (by omega) (by simp [hc2])) (by omega) (by omega) (by omega) (by omega) (by omega) (by omega) (by omega) (by omega) (by omega) (leB_len 4 _) (leB_len 4 _)).trans (entry_at hp (by omega) hd))⟩, (fC (by first | rfl | exact congrArg (Value.int _) (by first | omega | assumption | (symm; assumption) | (simp; done) | (simp; omega)) | exact congrArg (fun n => Value.slice _ n _) (by first | omega | (simp; done) | (simp; omega))) (fN _)), (by repeat (first | exact Agree.setL rfl Agree.mask | exact Agree.self _ _ | refine Agree.upd rfl ?_ | refine Agree.setL rfl ?_ | refine Agree.mask2 rfl ?_))⟩
      · refine sk ?_
        refine then_n ?_
        refine sq ?_
        refine dr (by kernel_rfl) ?_   -- region 8
        have H := H.drew
        refine hold (fun w' => SH w [b] w' [⟨b2, .cells p.cells.toArray 41 (0, 0), true⟩]) [] ?_
        refine tk (i := 0) rfl (by kernel_rfl) rfl (H.sub (by repeat (first | exact List.Sublist.refl _ | exact List.nil_sublist _ | apply List.Sublist.cons_cons | apply List.Sublist.cons))) (fun w' H => r_mv (v := .slice _ _ _) rfl) ?_
        refine tk (i := 1) rfl (by kernel_rfl) rfl (H.sub (by repeat (first | exact List.Sublist.refl _ | exact List.nil_sublist _ | apply List.Sublist.cons_cons | apply List.Sublist.cons))) (fun w' H => r_mv (v := .slice _ _ _) rfl) ?_
        refine tk (i := 2) rfl (by kernel_rfl) rfl (H.sub (by repeat (first | exact List.Sublist.refl _ | exact List.nil_sublist _ | apply List.Sublist.cons_cons | apply List.Sublist.cons))) (fun w' H => r_mv (v := .slice _ _ _) rfl) ?_
        refine tk (i := 3) rfl (by kernel_rfl) rfl (H.sub (by repeat (first | exact List.Sublist.refl _ | exact List.nil_sublist _ | apply List.Sublist.cons_cons | apply List.Sublist.cons))) (fun w' H => r_mv (v := .slice _ _ _) rfl) ?_
        refine tk (i := 4) rfl (by kernel_rfl) rfl (H.sub (by repeat (first | exact List.Sublist.refl _ | exact List.nil_sublist _ | apply List.Sublist.cons_cons | apply List.Sublist.cons))) (fun w' H => r_fa rfl fo41_5) ?_
        first | refine tk (i := 5) rfl (by kernel_rfl) rfl (H.sub (by repeat (first | exact List.Sublist.refl _ | exact List.nil_sublist _ | apply List.Sublist.cons_cons | apply List.Sublist.cons))) (fun w' H => r_iy rfl rfl Try.underlying39 sz5_1 (by omega)) ?_ | refine tk (i := 5) rfl (by kernel_rfl) rfl (H.sub (by repeat (first | exact List.Sublist.refl _ | exact List.nil_sublist _ | apply List.Sublist.cons_cons | apply List.Sublist.cons))) (fun w' H => r_iyB rfl rfl Try.underlying39 sz5_1 (by omega)) ?_
        first | refine tk (i := 6) rfl (by kernel_rfl) rfl (H.sub (by repeat (first | exact List.Sublist.refl _ | exact List.nil_sublist _ | apply List.Sublist.cons_cons | apply List.Sublist.cons))) (fun w' H => r_ldb H rfl sc5 (by omega)) ?_ | refine tk (i := 6) rfl (by kernel_rfl) rfl (H.sub (by repeat (first | exact List.Sublist.refl _ | exact List.nil_sublist _ | apply List.Sublist.cons_cons | apply List.Sublist.cons))) (fun w' H => r_ld H rfl sc5 rfl) ?_ | refine tk (i := 6) rfl (by kernel_rfl) rfl (H.sub (by repeat (first | exact List.Sublist.refl _ | exact List.nil_sublist _ | apply List.Sublist.cons_cons | apply List.Sublist.cons))) (fun w' H => r_lc rfl (by first | assumption | exact H.fr.cell (by assumption) (by simp)) sc5) ?_
        refine tk (i := 7) rfl (by kernel_rfl) rfl (H.sub (by repeat (first | exact List.Sublist.refl _ | exact List.nil_sublist _ | apply List.Sublist.cons_cons | apply List.Sublist.cons))) (fun w' H => r_fa rfl fo41_5) ?_
        first | refine tk (i := 8) rfl (by kernel_rfl) rfl (H.sub (by repeat (first | exact List.Sublist.refl _ | exact List.nil_sublist _ | apply List.Sublist.cons_cons | apply List.Sublist.cons))) (fun w' H => r_iy rfl rfl Try.underlying39 sz5_1 (by omega)) ?_ | refine tk (i := 8) rfl (by kernel_rfl) rfl (H.sub (by repeat (first | exact List.Sublist.refl _ | exact List.nil_sublist _ | apply List.Sublist.cons_cons | apply List.Sublist.cons))) (fun w' H => r_iyB rfl rfl Try.underlying39 sz5_1 (by omega)) ?_
        first | refine tk (i := 9) rfl (by kernel_rfl) rfl (H.sub (by repeat (first | exact List.Sublist.refl _ | exact List.nil_sublist _ | apply List.Sublist.cons_cons | apply List.Sublist.cons))) (fun w' H => r_ldb H rfl sc5 (by omega)) ?_ | refine tk (i := 9) rfl (by kernel_rfl) rfl (H.sub (by repeat (first | exact List.Sublist.refl _ | exact List.nil_sublist _ | apply List.Sublist.cons_cons | apply List.Sublist.cons))) (fun w' H => r_ld H rfl sc5 rfl) ?_ | refine tk (i := 9) rfl (by kernel_rfl) rfl (H.sub (by repeat (first | exact List.Sublist.refl _ | exact List.nil_sublist _ | apply List.Sublist.cons_cons | apply List.Sublist.cons))) (fun w' H => r_lc rfl (by first | assumption | exact H.fr.cell (by assumption) (by simp)) sc5) ?_
        refine tk (i := 10) rfl (by kernel_rfl) rfl (H.sub (by repeat (first | exact List.Sublist.refl _ | exact List.nil_sublist _ | apply List.Sublist.cons_cons | apply List.Sublist.cons))) (fun w' H => r_fa rfl fo41_5) ?_
        first | refine tk (i := 11) rfl (by kernel_rfl) rfl (H.sub (by repeat (first | exact List.Sublist.refl _ | exact List.nil_sublist _ | apply List.Sublist.cons_cons | apply List.Sublist.cons))) (fun w' H => r_iy rfl rfl Try.underlying39 sz5_1 (by omega)) ?_ | refine tk (i := 11) rfl (by kernel_rfl) rfl (H.sub (by repeat (first | exact List.Sublist.refl _ | exact List.nil_sublist _ | apply List.Sublist.cons_cons | apply List.Sublist.cons))) (fun w' H => r_iyB rfl rfl Try.underlying39 sz5_1 (by omega)) ?_
        first | refine tk (i := 12) rfl (by kernel_rfl) rfl (H.sub (by repeat (first | exact List.Sublist.refl _ | exact List.nil_sublist _ | apply List.Sublist.cons_cons | apply List.Sublist.cons))) (fun w' H => r_ldb H rfl sc5 (by omega)) ?_ | refine tk (i := 12) rfl (by kernel_rfl) rfl (H.sub (by repeat (first | exact List.Sublist.refl _ | exact List.nil_sublist _ | apply List.Sublist.cons_cons | apply List.Sublist.cons))) (fun w' H => r_ld H rfl sc5 rfl) ?_ | refine tk (i := 12) rfl (by kernel_rfl) rfl (H.sub (by repeat (first | exact List.Sublist.refl _ | exact List.nil_sublist _ | apply List.Sublist.cons_cons | apply List.Sublist.cons))) (fun w' H => r_lc rfl (by first | assumption | exact H.fr.cell (by assumption) (by simp)) sc5) ?_
        refine tk (i := 13) rfl (by kernel_rfl) rfl (H.sub (by repeat (first | exact List.Sublist.refl _ | exact List.nil_sublist _ | apply List.Sublist.cons_cons | apply List.Sublist.cons))) (fun w' H => r_fa rfl fo41_2) ?_
        first | refine tk (i := 14) rfl (by kernel_rfl) rfl (H.sub (by repeat (first | exact List.Sublist.refl _ | exact List.nil_sublist _ | apply List.Sublist.cons_cons | apply List.Sublist.cons))) (fun w' H => r_ldb H rfl sc5 (by omega)) ?_ | refine tk (i := 14) rfl (by kernel_rfl) rfl (H.sub (by repeat (first | exact List.Sublist.refl _ | exact List.nil_sublist _ | apply List.Sublist.cons_cons | apply List.Sublist.cons))) (fun w' H => r_ld H rfl sc5 rfl) ?_ | refine tk (i := 14) rfl (by kernel_rfl) rfl (H.sub (by repeat (first | exact List.Sublist.refl _ | exact List.nil_sublist _ | apply List.Sublist.cons_cons | apply List.Sublist.cons))) (fun w' H => r_lc rfl (by first | assumption | exact H.fr.cell (by assumption) (by simp)) sc5) ?_
        first | refine tk (i := 15) rfl (by kernel_rfl) rfl (H.sub (by repeat (first | exact List.Sublist.refl _ | exact List.nil_sublist _ | apply List.Sublist.cons_cons | apply List.Sublist.cons))) (fun w' H => r_ia rfl rfl Try.underlying23 sz5_1 (by omega)) ?_ | refine tk (i := 15) rfl (by kernel_rfl) rfl (H.sub (by repeat (first | exact List.Sublist.refl _ | exact List.nil_sublist _ | apply List.Sublist.cons_cons | apply List.Sublist.cons))) (fun w' H => r_iA rfl rfl Try.underlying23 sz5_1 (by omega)) ?_
        refine fk (i := 16) (by kernel_rfl) rfl rfl rfl ?_
        first | refine stb H rfl rfl sc5 (by omega) (by first | decide | (simp only [List.length_set, List.length_cons, List.length_nil, List.length_replicate, List.length_append, Bs_length]; omega) | omega) (by omega) ?_ | refine st (v := .int .u8 _) H rfl rfl sc5 rfl (by first | decide | (simp only [List.length_set, List.length_cons, List.length_nil, List.length_replicate, List.length_append, Bs_length]; omega) | omega) (by omega) ?_
        clear H; intro w16 H _
        refine nl ?_
        refine then_n ?_
        refine ⟨H.sub (by repeat (first | exact List.Sublist.refl _ | exact List.nil_sublist _ | apply List.Sublist.cons_cons | apply List.Sublist.cons)), ?_⟩
        first | refine tk (i := 17) rfl (by kernel_rfl) rfl (H.sub (by repeat (first | exact List.Sublist.refl _ | exact List.nil_sublist _ | apply List.Sublist.cons_cons | apply List.Sublist.cons))) (fun w' H => r_ia rfl rfl Try.underlying23 sz5_1 (by omega)) ?_ | refine tk (i := 17) rfl (by kernel_rfl) rfl (H.sub (by repeat (first | exact List.Sublist.refl _ | exact List.nil_sublist _ | apply List.Sublist.cons_cons | apply List.Sublist.cons))) (fun w' H => r_iA rfl rfl Try.underlying23 sz5_1 (by omega)) ?_
        refine fk (i := 18) (by kernel_rfl) rfl rfl rfl ?_
        first | refine stb H rfl rfl sc5 (by omega) (by first | decide | (simp only [List.length_set, List.length_cons, List.length_nil, List.length_replicate, List.length_append, Bs_length]; omega) | omega) (by omega) ?_ | refine st (v := .int .u8 _) H rfl rfl sc5 rfl (by first | decide | (simp only [List.length_set, List.length_cons, List.length_nil, List.length_replicate, List.length_append, Bs_length]; omega) | omega) (by omega) ?_
        clear H; intro w17 H _
        refine nl ?_
        refine then_n ?_
        refine ⟨H.sub (by repeat (first | exact List.Sublist.refl _ | exact List.nil_sublist _ | apply List.Sublist.cons_cons | apply List.Sublist.cons)), ?_⟩
        first | refine tk (i := 19) rfl (by kernel_rfl) rfl (H.sub (by repeat (first | exact List.Sublist.refl _ | exact List.nil_sublist _ | apply List.Sublist.cons_cons | apply List.Sublist.cons))) (fun w' H => r_ia rfl rfl Try.underlying23 sz5_1 (by omega)) ?_ | refine tk (i := 19) rfl (by kernel_rfl) rfl (H.sub (by repeat (first | exact List.Sublist.refl _ | exact List.nil_sublist _ | apply List.Sublist.cons_cons | apply List.Sublist.cons))) (fun w' H => r_iA rfl rfl Try.underlying23 sz5_1 (by omega)) ?_
        refine fk (i := 20) (by kernel_rfl) rfl rfl rfl ?_
        first | refine stb H rfl rfl sc5 (by omega) (by first | decide | (simp only [List.length_set, List.length_cons, List.length_nil, List.length_replicate, List.length_append, Bs_length]; omega) | omega) (by omega) ?_ | refine st (v := .int .u8 _) H rfl rfl sc5 rfl (by first | decide | (simp only [List.length_set, List.length_cons, List.length_nil, List.length_replicate, List.length_append, Bs_length]; omega) | omega) (by omega) ?_
        clear H; intro w18 H _
        refine nl ?_
        refine then_n ?_
        refine ⟨H.sub (by repeat (first | exact List.Sublist.refl _ | exact List.nil_sublist _ | apply List.Sublist.cons_cons | apply List.Sublist.cons)), ?_⟩
        first | refine tk (i := 21) rfl (by kernel_rfl) rfl (H.sub (by repeat (first | exact List.Sublist.refl _ | exact List.nil_sublist _ | apply List.Sublist.cons_cons | apply List.Sublist.cons))) (fun w' H => r_ia rfl rfl Try.underlying23 sz5_1 (by omega)) ?_ | refine tk (i := 21) rfl (by kernel_rfl) rfl (H.sub (by repeat (first | exact List.Sublist.refl _ | exact List.nil_sublist _ | apply List.Sublist.cons_cons | apply List.Sublist.cons))) (fun w' H => r_iA rfl rfl Try.underlying23 sz5_1 (by omega)) ?_
        refine fk (i := 22) (by kernel_rfl) rfl rfl rfl ?_
        first | refine stb H rfl rfl sc5 (by omega) (by first | decide | (simp only [List.length_set, List.length_cons, List.length_nil, List.length_replicate, List.length_append, Bs_length]; omega) | omega) (by omega) ?_ | refine st (v := .int .u8 _) H rfl rfl sc5 rfl (by first | decide | (simp only [List.length_set, List.length_cons, List.length_nil, List.length_replicate, List.length_append, Bs_length]; omega) | omega) (by omega) ?_
        clear H; intro w19 H _
        refine nl ?_
        refine then_n ?_
        refine ⟨H.sub (by repeat (first | exact List.Sublist.refl _ | exact List.nil_sublist _ | apply List.Sublist.cons_cons | apply List.Sublist.cons)), ?_⟩
        refine da (by kernel_rfl) ?_
        refine then_n ?_
        refine sq ?_
        refine dr (by kernel_rfl) ?_   -- region 9
        have H := H.drew
        refine hold (fun w' => SH w [b] w' [⟨b2, .cells p.cells.toArray 41 (0, 0), true⟩]) [] ?_
        refine tk (i := 0) rfl (by kernel_rfl) rfl (H.sub (by repeat (first | exact List.Sublist.refl _ | exact List.nil_sublist _ | apply List.Sublist.cons_cons | apply List.Sublist.cons))) (fun w' H => r_mv (v := .slice _ _ _) rfl) ?_
        refine tk (i := 1) rfl (by kernel_rfl) rfl (H.sub (by repeat (first | exact List.Sublist.refl _ | exact List.nil_sublist _ | apply List.Sublist.cons_cons | apply List.Sublist.cons))) (fun w' H => r_mv (v := .slice _ _ _) rfl) ?_
        refine tk (i := 2) rfl (by kernel_rfl) rfl (H.sub (by repeat (first | exact List.Sublist.refl _ | exact List.nil_sublist _ | apply List.Sublist.cons_cons | apply List.Sublist.cons))) (fun w' H => r_mv (v := .slice _ _ _) rfl) ?_
        refine tk (i := 3) rfl (by kernel_rfl) rfl (H.sub (by repeat (first | exact List.Sublist.refl _ | exact List.nil_sublist _ | apply List.Sublist.cons_cons | apply List.Sublist.cons))) (fun w' H => r_fa rfl fo41_5) ?_
        first | refine tk (i := 4) rfl (by kernel_rfl) rfl (H.sub (by repeat (first | exact List.Sublist.refl _ | exact List.nil_sublist _ | apply List.Sublist.cons_cons | apply List.Sublist.cons))) (fun w' H => r_iy rfl rfl Try.underlying39 sz5_1 (by omega)) ?_ | refine tk (i := 4) rfl (by kernel_rfl) rfl (H.sub (by repeat (first | exact List.Sublist.refl _ | exact List.nil_sublist _ | apply List.Sublist.cons_cons | apply List.Sublist.cons))) (fun w' H => r_iyB rfl rfl Try.underlying39 sz5_1 (by omega)) ?_
        first | refine tk (i := 5) rfl (by kernel_rfl) rfl (H.sub (by repeat (first | exact List.Sublist.refl _ | exact List.nil_sublist _ | apply List.Sublist.cons_cons | apply List.Sublist.cons))) (fun w' H => r_ldb H rfl sc5 (by omega)) ?_ | refine tk (i := 5) rfl (by kernel_rfl) rfl (H.sub (by repeat (first | exact List.Sublist.refl _ | exact List.nil_sublist _ | apply List.Sublist.cons_cons | apply List.Sublist.cons))) (fun w' H => r_ld H rfl sc5 rfl) ?_ | refine tk (i := 5) rfl (by kernel_rfl) rfl (H.sub (by repeat (first | exact List.Sublist.refl _ | exact List.nil_sublist _ | apply List.Sublist.cons_cons | apply List.Sublist.cons))) (fun w' H => r_lc rfl (by first | assumption | exact H.fr.cell (by assumption) (by simp)) sc5) ?_
        refine tk (i := 6) rfl (by kernel_rfl) rfl (H.sub (by repeat (first | exact List.Sublist.refl _ | exact List.nil_sublist _ | apply List.Sublist.cons_cons | apply List.Sublist.cons))) (fun w' H => r_fa rfl fo41_5) ?_
        first | refine tk (i := 7) rfl (by kernel_rfl) rfl (H.sub (by repeat (first | exact List.Sublist.refl _ | exact List.nil_sublist _ | apply List.Sublist.cons_cons | apply List.Sublist.cons))) (fun w' H => r_iy rfl rfl Try.underlying39 sz5_1 (by omega)) ?_ | refine tk (i := 7) rfl (by kernel_rfl) rfl (H.sub (by repeat (first | exact List.Sublist.refl _ | exact List.nil_sublist _ | apply List.Sublist.cons_cons | apply List.Sublist.cons))) (fun w' H => r_iyB rfl rfl Try.underlying39 sz5_1 (by omega)) ?_
        first | refine tk (i := 8) rfl (by kernel_rfl) rfl (H.sub (by repeat (first | exact List.Sublist.refl _ | exact List.nil_sublist _ | apply List.Sublist.cons_cons | apply List.Sublist.cons))) (fun w' H => r_ldb H rfl sc5 (by omega)) ?_ | refine tk (i := 8) rfl (by kernel_rfl) rfl (H.sub (by repeat (first | exact List.Sublist.refl _ | exact List.nil_sublist _ | apply List.Sublist.cons_cons | apply List.Sublist.cons))) (fun w' H => r_ld H rfl sc5 rfl) ?_ | refine tk (i := 8) rfl (by kernel_rfl) rfl (H.sub (by repeat (first | exact List.Sublist.refl _ | exact List.nil_sublist _ | apply List.Sublist.cons_cons | apply List.Sublist.cons))) (fun w' H => r_lc rfl (by first | assumption | exact H.fr.cell (by assumption) (by simp)) sc5) ?_
        refine tk (i := 9) rfl (by kernel_rfl) rfl (H.sub (by repeat (first | exact List.Sublist.refl _ | exact List.nil_sublist _ | apply List.Sublist.cons_cons | apply List.Sublist.cons))) (fun w' H => r_fa rfl fo41_5) ?_
        first | refine tk (i := 10) rfl (by kernel_rfl) rfl (H.sub (by repeat (first | exact List.Sublist.refl _ | exact List.nil_sublist _ | apply List.Sublist.cons_cons | apply List.Sublist.cons))) (fun w' H => r_iy rfl rfl Try.underlying39 sz5_1 (by omega)) ?_ | refine tk (i := 10) rfl (by kernel_rfl) rfl (H.sub (by repeat (first | exact List.Sublist.refl _ | exact List.nil_sublist _ | apply List.Sublist.cons_cons | apply List.Sublist.cons))) (fun w' H => r_iyB rfl rfl Try.underlying39 sz5_1 (by omega)) ?_
        first | refine tk (i := 11) rfl (by kernel_rfl) rfl (H.sub (by repeat (first | exact List.Sublist.refl _ | exact List.nil_sublist _ | apply List.Sublist.cons_cons | apply List.Sublist.cons))) (fun w' H => r_ldb H rfl sc5 (by omega)) ?_ | refine tk (i := 11) rfl (by kernel_rfl) rfl (H.sub (by repeat (first | exact List.Sublist.refl _ | exact List.nil_sublist _ | apply List.Sublist.cons_cons | apply List.Sublist.cons))) (fun w' H => r_ld H rfl sc5 rfl) ?_ | refine tk (i := 11) rfl (by kernel_rfl) rfl (H.sub (by repeat (first | exact List.Sublist.refl _ | exact List.nil_sublist _ | apply List.Sublist.cons_cons | apply List.Sublist.cons))) (fun w' H => r_lc rfl (by first | assumption | exact H.fr.cell (by assumption) (by simp)) sc5) ?_
        first | refine tk (i := 12) rfl (by kernel_rfl) rfl (H.sub (by repeat (first | exact List.Sublist.refl _ | exact List.nil_sublist _ | apply List.Sublist.cons_cons | apply List.Sublist.cons))) (fun w' H => r_ia rfl rfl Try.underlying23 sz5_1 (by omega)) ?_ | refine tk (i := 12) rfl (by kernel_rfl) rfl (H.sub (by repeat (first | exact List.Sublist.refl _ | exact List.nil_sublist _ | apply List.Sublist.cons_cons | apply List.Sublist.cons))) (fun w' H => r_iA rfl rfl Try.underlying23 sz5_1 (by omega)) ?_
        refine fk (i := 13) (by kernel_rfl) rfl rfl rfl ?_
        first | refine stb H rfl rfl sc5 (by omega) (by first | decide | (simp only [List.length_set, List.length_cons, List.length_nil, List.length_replicate, List.length_append, Bs_length]; omega) | omega) (by omega) ?_ | refine st (v := .int .u8 _) H rfl rfl sc5 rfl (by first | decide | (simp only [List.length_set, List.length_cons, List.length_nil, List.length_replicate, List.length_append, Bs_length]; omega) | omega) (by omega) ?_
        clear H; intro w20 H _
        refine nl ?_
        refine then_n ?_
        refine ⟨H.sub (by repeat (first | exact List.Sublist.refl _ | exact List.nil_sublist _ | apply List.Sublist.cons_cons | apply List.Sublist.cons)), ?_⟩
        first | refine tk (i := 14) rfl (by kernel_rfl) rfl (H.sub (by repeat (first | exact List.Sublist.refl _ | exact List.nil_sublist _ | apply List.Sublist.cons_cons | apply List.Sublist.cons))) (fun w' H => r_ia rfl rfl Try.underlying23 sz5_1 (by omega)) ?_ | refine tk (i := 14) rfl (by kernel_rfl) rfl (H.sub (by repeat (first | exact List.Sublist.refl _ | exact List.nil_sublist _ | apply List.Sublist.cons_cons | apply List.Sublist.cons))) (fun w' H => r_iA rfl rfl Try.underlying23 sz5_1 (by omega)) ?_
        refine fk (i := 15) (by kernel_rfl) rfl rfl rfl ?_
        first | refine stb H rfl rfl sc5 (by omega) (by first | decide | (simp only [List.length_set, List.length_cons, List.length_nil, List.length_replicate, List.length_append, Bs_length]; omega) | omega) (by omega) ?_ | refine st (v := .int .u8 _) H rfl rfl sc5 rfl (by first | decide | (simp only [List.length_set, List.length_cons, List.length_nil, List.length_replicate, List.length_append, Bs_length]; omega) | omega) (by omega) ?_
        clear H; intro w21 H _
        refine nl ?_
        refine then_n ?_
        refine ⟨H.sub (by repeat (first | exact List.Sublist.refl _ | exact List.nil_sublist _ | apply List.Sublist.cons_cons | apply List.Sublist.cons)), ?_⟩
        first | refine tk (i := 16) rfl (by kernel_rfl) rfl (H.sub (by repeat (first | exact List.Sublist.refl _ | exact List.nil_sublist _ | apply List.Sublist.cons_cons | apply List.Sublist.cons))) (fun w' H => r_ia rfl rfl Try.underlying23 sz5_1 (by omega)) ?_ | refine tk (i := 16) rfl (by kernel_rfl) rfl (H.sub (by repeat (first | exact List.Sublist.refl _ | exact List.nil_sublist _ | apply List.Sublist.cons_cons | apply List.Sublist.cons))) (fun w' H => r_iA rfl rfl Try.underlying23 sz5_1 (by omega)) ?_
        refine fk (i := 17) (by kernel_rfl) rfl rfl rfl ?_
        first | refine stb H rfl rfl sc5 (by omega) (by first | decide | (simp only [List.length_set, List.length_cons, List.length_nil, List.length_replicate, List.length_append, Bs_length]; omega) | omega) (by omega) ?_ | refine st (v := .int .u8 _) H rfl rfl sc5 rfl (by first | decide | (simp only [List.length_set, List.length_cons, List.length_nil, List.length_replicate, List.length_append, Bs_length]; omega) | omega) (by omega) ?_
        clear H; intro w22 H _
        refine nl ?_
        refine then_n ?_
        refine ⟨H.sub (by repeat (first | exact List.Sublist.refl _ | exact List.nil_sublist _ | apply List.Sublist.cons_cons | apply List.Sublist.cons)), ?_⟩
        refine da (by kernel_rfl) ?_
        refine then_n ?_
        refine sq ?_
        refine dr (by kernel_rfl) ?_   -- region 10
        have H := H.drew
        refine hold (fun w' => SH w [b] w' [⟨b2, .cells p.cells.toArray 41 (0, 0), true⟩]) [] ?_
        refine tk (i := 0) rfl (by kernel_rfl) rfl (H.sub (by repeat (first | exact List.Sublist.refl _ | exact List.nil_sublist _ | apply List.Sublist.cons_cons | apply List.Sublist.cons))) (fun w' H => r_mv (v := .slice _ _ _) rfl) ?_
        refine tk (i := 1) rfl (by kernel_rfl) rfl (H.sub (by repeat (first | exact List.Sublist.refl _ | exact List.nil_sublist _ | apply List.Sublist.cons_cons | apply List.Sublist.cons))) (fun w' H => r_sllh rfl rfl rfl Try.underlying23 sz5_1 (by first | trivial | omega | (simp; omega))) ?_
        refine tk (i := 2) rfl (by kernel_rfl) rfl (H.sub (by repeat (first | exact List.Sublist.refl _ | exact List.nil_sublist _ | apply List.Sublist.cons_cons | apply List.Sublist.cons))) (fun w' H => r_fa rfl fo41_3) ?_
        first | refine tk (i := 3) rfl (by kernel_rfl) rfl (H.sub (by repeat (first | exact List.Sublist.refl _ | exact List.nil_sublist _ | apply List.Sublist.cons_cons | apply List.Sublist.cons))) (fun w' H => r_ld H rfl sc35 rfl) ?_ | refine tk (i := 3) rfl (by kernel_rfl) rfl (H.sub (by repeat (first | exact List.Sublist.refl _ | exact List.nil_sublist _ | apply List.Sublist.cons_cons | apply List.Sublist.cons))) (fun w' H => r_lc rfl (by first | assumption | exact H.fr.cell (by assumption) (by simp)) sc35) ?_ | refine tk (i := 3) rfl (by kernel_rfl) rfl (H.sub (by repeat (first | exact List.Sublist.refl _ | exact List.nil_sublist _ | apply List.Sublist.cons_cons | apply List.Sublist.cons))) (fun w' H => r_ld H rfl sc35 (by assumption)) ?_
        refine tk (i := 4) rfl (by kernel_rfl) rfl (H.sub (by repeat (first | exact List.Sublist.refl _ | exact List.nil_sublist _ | apply List.Sublist.cons_cons | apply List.Sublist.cons))) (fun w' H => r_cvi rfl rfl Try.underlying30 (by first | exact w_u64 (by omega) | exact w_u64 (rng_u64 _) | exact m_u64 _)) ?_
        refine fk (i := 5) (by kernel_rfl) rfl rfl rfl ?_
        refine cl ca22 (c_putLe _ _ _ _ _ _ _ _ H.look (by first | omega | ((try simp only [pAt_length, leB_len, gB_len, List.length_set, List.length_replicate]); omega)) (by omega)) rfl ?_
        rintro _ w23 ⟨rfl, hlen, F, hnew⟩
        replace H := H.put F hnew; clear F hnew
        refine nl ?_
        refine then_n ?_
        refine ⟨H.sub (by repeat (first | exact List.Sublist.refl _ | exact List.nil_sublist _ | apply List.Sublist.cons_cons | apply List.Sublist.cons)), ?_⟩
        refine da (by kernel_rfl) ?_
        refine then_n ?_
        refine dr (by kernel_rfl) ?_   -- region 11
        have H := H.drew
        refine hold (fun w' => SH w [b] w' [⟨b2, .cells p.cells.toArray 41 (0, 0), true⟩]) [] ?_
        refine tk (i := 0) rfl (by kernel_rfl) rfl (H.sub (by repeat (first | exact List.Sublist.refl _ | exact List.nil_sublist _ | apply List.Sublist.cons_cons | apply List.Sublist.cons))) (fun w' H => r_mv (v := .slice _ _ _) rfl) ?_
        refine tk (i := 1) rfl (by kernel_rfl) rfl (H.sub (by repeat (first | exact List.Sublist.refl _ | exact List.nil_sublist _ | apply List.Sublist.cons_cons | apply List.Sublist.cons))) (fun w' H => r_sllh rfl rfl rfl Try.underlying23 sz5_1 (by first | trivial | omega | (simp; omega))) ?_
        refine tk (i := 2) rfl (by kernel_rfl) rfl (H.sub (by repeat (first | exact List.Sublist.refl _ | exact List.nil_sublist _ | apply List.Sublist.cons_cons | apply List.Sublist.cons))) (fun w' H => r_fa rfl fo41_4) ?_
        first | refine tk (i := 3) rfl (by kernel_rfl) rfl (H.sub (by repeat (first | exact List.Sublist.refl _ | exact List.nil_sublist _ | apply List.Sublist.cons_cons | apply List.Sublist.cons))) (fun w' H => r_ld H rfl sc35 rfl) ?_ | refine tk (i := 3) rfl (by kernel_rfl) rfl (H.sub (by repeat (first | exact List.Sublist.refl _ | exact List.nil_sublist _ | apply List.Sublist.cons_cons | apply List.Sublist.cons))) (fun w' H => r_lc rfl (by first | assumption | exact H.fr.cell (by assumption) (by simp)) sc35) ?_ | refine tk (i := 3) rfl (by kernel_rfl) rfl (H.sub (by repeat (first | exact List.Sublist.refl _ | exact List.nil_sublist _ | apply List.Sublist.cons_cons | apply List.Sublist.cons))) (fun w' H => r_ld H rfl sc35 (by assumption)) ?_
        refine tk (i := 4) rfl (by kernel_rfl) rfl (H.sub (by repeat (first | exact List.Sublist.refl _ | exact List.nil_sublist _ | apply List.Sublist.cons_cons | apply List.Sublist.cons))) (fun w' H => r_cvi rfl rfl Try.underlying30 (by first | exact w_u64 (by omega) | exact w_u64 (rng_u64 _) | exact m_u64 _)) ?_
        refine fk (i := 5) (by kernel_rfl) rfl rfl rfl ?_
        refine cl ca22 (c_putLe _ _ _ _ _ _ _ _ H.look (by first | omega | ((try simp only [pAt_length, leB_len, gB_len, List.length_set, List.length_replicate]); omega)) (by omega)) rfl ?_
        rintro _ w24 ⟨rfl, hlen, F, hnew⟩
        replace H := H.put F hnew; clear F hnew
        refine nl ?_
        refine then_n ?_
        refine ⟨H.sub (by repeat (first | exact List.Sublist.refl _ | exact List.nil_sublist _ | apply List.Sublist.cons_cons | apply List.Sublist.cons)), ?_⟩
        refine da (by kernel_rfl) ?_
        refine in_n ?_
        refine then_n ?_
        refine rg ?_
        refine add rfl rfl (by first | exact w_i64 (by omega) | exact w_i64 (rng_i64 _) | rfl) rfl ?_
        refine mv (v := .int .i64 _) rfl rfl ?_
        refine nl ?_
        refine loop_n ?_
        exact ⟨i + 1, (by (try dsimp only); omega), ⟨by omega, sh_bytes H.drop ((entry_put (X := pAt ds 446 ((ps.take i).flatMap MP.bytes)) (o := 446 + 16 * i) (by omega) (set_eq (by omega) (by simp [hc2])) (by omega) (by omega) (by omega) (by omega) (by omega) (by omega) (by omega) (by omega) (by omega) (leB_len 4 _) (leB_len 4 _)).trans (entry_at hp (by omega) hd))⟩, (fC (by first | rfl | exact congrArg (Value.int _) (by first | omega | assumption | (symm; assumption) | (simp; done) | (simp; omega)) | exact congrArg (fun n => Value.slice _ n _) (by first | omega | (simp; done) | (simp; omega))) (fN _)), (by repeat (first | exact Agree.setL rfl Agree.mask | exact Agree.self _ _ | refine Agree.upd rfl ?_ | refine Agree.setL rfl ?_ | refine Agree.mask2 rfl ?_))⟩
    · refine ex ?_
      refine then_e ?_
      refine loop_e ?_
      refine in_hit rfl ?_
      refine then_n ?_
      refine rg ?_
      refine mv (v := .slice _ _ _) rfl rfl ?_
      refine mv (v := .slice _ _ _) rfl rfl ?_
      first | refine ia rfl rfl Try.underlying23 sz5_1 (by omega) rfl ?_ | refine iA rfl rfl Try.underlying23 sz5_1 (by omega) rfl ?_
      first | refine stb H rfl rfl sc5 (by omega) (by first | decide | (simp only [List.length_set, List.length_cons, List.length_nil, List.length_replicate, List.length_append, Bs_length]; omega) | omega) (by omega) ?_ | refine st (v := .int .u8 _) H rfl rfl sc5 rfl (by first | decide | (simp only [List.length_set, List.length_cons, List.length_nil, List.length_replicate, List.length_append, Bs_length]; omega) | omega) (by omega) ?_
      clear H; intro w25 H _
      first | refine ia rfl rfl Try.underlying23 sz5_1 (by omega) rfl ?_ | refine iA rfl rfl Try.underlying23 sz5_1 (by omega) rfl ?_
      first | refine stb H rfl rfl sc5 (by omega) (by first | decide | (simp only [List.length_set, List.length_cons, List.length_nil, List.length_replicate, List.length_append, Bs_length]; omega) | omega) (by omega) ?_ | refine st (v := .int .u8 _) H rfl rfl sc5 rfl (by first | decide | (simp only [List.length_set, List.length_cons, List.length_nil, List.length_replicate, List.length_append, Bs_length]; omega) | omega) (by omega) ?_
      clear H; intro w26 H _
      refine nl ?_
      refine fin_n ?_
      have hl : (mbrB ds ps).length = ds.length := by
          unfold mbrB
          exact pAt_len (by rw [List.length_append, flat_len MP.bytes_len, h4]; simp; omega)
      exact ⟨rfl, hl, H.fr, H.look.trans (congrArg (fun l => some (Obj.cells (Bs l).toArray T (0, 0))) (mbr_end h4 hd (by omega)))⟩

set_option maxRecDepth 100000 in
set_option maxHeartbeats 1000000 in
theorem c_bytesEqual (w : World) (A A2 : Option Addr) (n c n2 c2 : Nat) (xs ys : List UInt8) (hx : RB w A n xs) (hy : RB w A2 n2 ys) : Calls Try.prog 50 #[.slice A n c, .slice A2 n2 c2] w (Ret fun v w' => v = .bool (decide (xs = ys)) ∧ Fr [] w w') := by
  refine enter (fun ρ => ρ 4) Try.func50 rfl rfl rfl (res1 rfl) ?_
  have H := SH.nil w
  refine sq ?_
  refine rg ?_
  refine asg (v := .bool _) rfl rfl ?_
  refine nl ?_
  refine then_n ?_
  refine sq ?_
  refine rg ?_
  refine mv (v := .slice _ _ _) rfl rfl ?_
  refine cvBS rfl (by first | exact hx | exact hy) Try.underlying23 Try.underlying5 Try.underlying9 rfl ?_
  refine mv (v := .slice _ _ _) rfl rfl ?_
  refine cvBS rfl (by first | exact hx | exact hy) Try.underlying23 Try.underlying5 Try.underlying9 rfl ?_
  refine eqlT rfl rfl rfl ?_
  refine asg (v := .bool _) rfl rfl ?_
  refine nl ?_
  refine then_n ?_
  refine rt ?_
  refine fin_r ?_
  exact ⟨rfl, H.fr⟩

set_option maxRecDepth 100000 in
set_option maxHeartbeats 1000000 in
theorem c_partDisk (w : World) (s z : Nat) (x : Int) (hx : 0 ≤ x ∧ x ≤ 255) (hs : s * z ≤ 100000000) (hs2 : s ≤ 100000000 ∧ z ≤ 100000000) : Calls Try.prog 4 #[.int .i64 (s : Int), .int .i64 (z : Int), .int .u8 x] w (Ret fun v w' => ∃ b ds, v = .slice (some ⟨b, 0, none⟩) (s * z) (s * z) ∧ ds.length = s * z ∧ w.heap.size ≤ b ∧ w'.heap[b]? = some (.cells (Bs ds).toArray 5 (0, 0)) ∧ Fr [] w w') := by
  refine enter (fun ρ => ρ 6) Try.func4 rfl rfl rfl (res1 rfl) ?_
  have H := SH.nil w
  have hm : (s : Int) * (z : Int) = ((s * z : Nat) : Int) := by simp
  generalize hn : s * z = n at hm hs
  refine sq ?_
  refine rg ?_
  refine asg (v := .slice _ _ _) rfl rfl ?_
  refine nl ?_
  refine then_n ?_
  refine sq ?_
  refine rg ?_
  refine mv (v := .int .i64 _) rfl rfl ?_
  refine mv (v := .int .i64 _) rfl rfl ?_
  refine mul (c := (n : Int)) rfl rfl (by rw [hm]; exact w_i64 (by omega)) rfl ?_
  refine mkB H rfl rfl Try.underlying23 mi5 (by omega) (by omega) (by omega) (by omega) rfl ?_
  clear H; intro b1 w1 hb1 H _
  refine asg (v := .slice _ _ _) rfl rfl ?_
  refine nl ?_
  refine then_n ?_
  refine sq ?_
  refine sq ?_
  refine rg ?_
  refine mv (v := .int .u8 _) rfl rfl ?_
  refine eql rfl rfl rfl ?_
  refine nl ?_
  refine then_n ?_
  first | refine cd rfl (fun hc1 => ?_) (fun hc1 => ?_) | refine cn rfl (fun hc1 => ?_) (fun hc1 => ?_)   -- test 1
  · refine sq ?_
    refine rg ?_
    refine mv (v := .slice _ _ _) rfl rfl ?_
    refine asg (v := .slice _ _ _) rfl rfl ?_
    refine nl ?_
    refine then_n ?_
    refine rt ?_
    refine then_r ?_
    refine fin_r ?_
    exact ⟨_, _, rfl, by simp, H.ge, H.look, H.fr⟩
  · refine sk ?_
    refine then_n ?_
    refine sq ?_
    refine rg ?_
    refine mv (v := .int .u8 _) rfl rfl ?_
    refine cvi rfl rfl Try.underlying35 (by first | exact w_u32 (by omega) | exact w_u32 (rng_u32 _) | exact m_u32 _) rfl ?_
    refine asg (v := .int .u32 _) rfl rfl ?_
    refine nl ?_
    refine then_n ?_
    refine sq ?_
    refine sq ?_
    refine rg ?_
    refine mv (v := .slice _ _ _) rfl rfl ?_
    refine lnS rfl Try.underlying23 rfl ?_
    refine mv (v := .int .i64 _) rfl rfl ?_
    refine nl ?_
    refine then_n ?_
    refine bk ?_
    refine lpM (α := Nat × Int × List UInt8) [8, 9, 21, 22, 23, 24, 25, 26, 27, 28, 29, 30, 31, 32, 33] (fun (i, y, ds) => [(8, .int .u32 y), (21, .int .i64 (i : Int))]) (fun (i, y, ds) w' => i ≤ n ∧ ds.length = n ∧ SH w [] w' [⟨b1, .cells (Bs ds).toArray 5 (0, 0), true⟩]) (fun (i, y, ds) => n - i) (0, x, List.replicate ((n : Int)).toNat 0) ?_ (fC (by first | rfl | exact congrArg (Value.int _) (by first | omega | assumption | (symm; assumption) | (simp; done) | (simp; omega)) | exact congrArg (fun n => Value.slice _ n _) (by first | omega | (simp; done) | (simp; omega))) (fC (by first | rfl | exact congrArg (Value.int _) (by first | omega | assumption | (symm; assumption) | (simp; done) | (simp; omega)) | exact congrArg (fun n => Value.slice _ n _) (by first | omega | (simp; done) | (simp; omega))) (fN _))) ?_   -- loop 1
    · exact ⟨by omega, by simp, H⟩
    · rintro ⟨i, y, ds⟩ ρx w2 ⟨hi, hl, H⟩
      refine sq ?_
      refine rg ?_
      refine lss rfl rfl rfl ?_
      refine nl ?_
      refine then_n ?_
      refine sq ?_
      first | refine cd rfl (fun hc2 => ?_) (fun hc2 => ?_) | refine cn rfl (fun hc2 => ?_) (fun hc2 => ?_)   -- test 2
      · refine sk ?_
        refine then_n ?_
        refine sq ?_
        refine bk ?_
        refine sq ?_
        refine rg ?_
        refine mv (v := .int .i64 _) rfl rfl ?_
        refine asg (v := .int .i64 _) rfl rfl ?_
        refine nl ?_
        refine then_n ?_
        refine sq ?_
        refine rg ?_
        refine mv (v := .int .u32 _) rfl rfl ?_
        refine mul rfl rfl (by first | exact w_u32 (by omega) | exact w_u32 (rng_u32 _) | exact m_u32 _) rfl ?_
        refine add rfl rfl (by first | exact w_u32 (by omega) | exact w_u32 (rng_u32 _) | exact m_u32 _) rfl ?_
        refine asg (v := .int .u32 _) rfl rfl ?_
        refine nl ?_
        refine then_n ?_
        refine rg ?_
        refine mv (v := .slice _ _ _) rfl rfl ?_
        refine mv (v := .int .i64 _) rfl rfl ?_
        refine mv (v := .int .u32 _) rfl rfl ?_
        refine shrK (s := 24) (p := 16777216) rfl rfl (by decide) (by decide) rfl rfl ?_
        refine cvi rfl rfl Try.underlying5 (by first | exact w_u8 (by omega) | exact w_u8 (rng_u8 _) | exact m_u8 _) rfl ?_
        first | refine ia rfl rfl Try.underlying23 sz5_1 (by omega) rfl ?_ | refine iA rfl rfl Try.underlying23 sz5_1 (by omega) rfl ?_
        first | refine stb H rfl rfl sc5 (by omega) (by first | decide | (simp only [List.length_set, List.length_cons, List.length_nil, List.length_replicate, List.length_append, Bs_length]; omega) | omega) (by omega) ?_ | refine st (v := .int .u8 _) H rfl rfl sc5 rfl (by first | decide | (simp only [List.length_set, List.length_cons, List.length_nil, List.length_replicate, List.length_append, Bs_length]; omega) | omega) (by omega) ?_
        clear H; intro w3 H _
        refine nl ?_
        refine in_n ?_
        refine then_n ?_
        refine rg ?_
        refine add rfl rfl (by first | exact w_i64 (by omega) | exact w_i64 (rng_i64 _) | rfl) rfl ?_
        refine mv (v := .int .i64 _) rfl rfl ?_
        refine nl ?_
        refine loop_n ?_
        exact ⟨(i + 1, _, _), (by (try dsimp only); omega), ⟨by omega, by rw [List.length_set]; exact hl, H⟩, (fC (by first | rfl | exact congrArg (Value.int _) (by first | omega | assumption | (symm; assumption) | (simp; done) | (simp; omega)) | exact congrArg (fun n => Value.slice _ n _) (by first | omega | (simp; done) | (simp; omega))) (fC (by first | rfl | exact congrArg (Value.int _) (by first | omega | assumption | (symm; assumption) | (simp; done) | (simp; omega)) | exact congrArg (fun n => Value.slice _ n _) (by first | omega | (simp; done) | (simp; omega))) (fN _))), (by repeat (first | exact Agree.setL rfl Agree.mask | exact Agree.self _ _ | refine Agree.upd rfl ?_ | refine Agree.setL rfl ?_ | refine Agree.mask2 rfl ?_))⟩
      · refine ex ?_
        refine then_e ?_
        refine loop_e ?_
        refine in_hit rfl ?_
        refine then_n ?_
        refine sq ?_
        refine rg ?_
        refine mv (v := .slice _ _ _) rfl rfl ?_
        refine asg (v := .slice _ _ _) rfl rfl ?_
        refine nl ?_
        refine then_n ?_
        refine rt ?_
        refine fin_r ?_
        exact ⟨_, _, rfl, hl, H.ge, H.look, H.fr⟩

end Go.Proofs.Ythcaejaaalkglaa.X
/- Tables of GUID partitions, as plain data: what is laid on a disk. -/
namespace Go.Proofs.Ythcaejaaalkglaa.X
open Go
set_option linter.unusedVariables false
structure GP where
  ix : Int
  st : Int
  en : Int
  sz : Int
  ty : List UInt8
  nm : List UInt8
  gu : List UInt8
  att : Int
def GP.cells (p : GP) : List Value := [.int .i64 p.ix, .int .u64 p.st, .int .u64 p.en, .int .u64 p.sz, .string (str p.ty), .string (str p.nm), .string (str p.gu), .int .u64 p.att]
structure GP.ok (p : GP) : Prop where
  ix : -9223372036854775808 ≤ p.ix ∧ p.ix ≤ 9223372036854775807
  st : 0 ≤ p.st ∧ p.st ≤ 18446744073709551615
  en : 0 ≤ p.en ∧ p.en ≤ 18446744073709551615
  sz : 0 ≤ p.sz ∧ p.sz ≤ 18446744073709551615
  att : 0 ≤ p.att ∧ p.att ≤ 18446744073709551615
theorem GP.cells_len (p : GP) : p.cells.length = 8 := rfl
theorem GP.cells_one (p : GP) : p.cells.all Value.oneCell' = true := rfl
/-- The texts' lengths, as the statements bound them. -/
structure GP.fit (p : GP) : Prop where
  ty : p.ty.length ≤ 2147483647
  nm : p.nm.length ≤ 2147483647
  gu : p.gu.length ≤ 2147483647
/-- A table's cells. -/
def gtCells (D : Option Addr) (m c : Nat) (sec : Int) (gu : List UInt8) (pr rc : Bool) : List Value := [.slice D m c, .int .i64 sec, .string (str gu), .bool pr, .bool rc]
/-! ### what is laid -/
/-- An entry's bytes, up to its name's end. -/
def entN (s : List UInt8) : List UInt8 := (utf16 s).flatMap (leB 2)
def entH (p : GP) : List UInt8 := gB p.ty ++ gB p.gu ++ leB 8 p.st ++ leB 8 p.en ++ leB 8 p.att
def entB (p : GP) : List UInt8 := entH p ++ entN p.nm
theorem entH_len (p : GP) : (entH p).length = 56 := by simp [entH, gB_len, leB_len]
theorem entN_len (s : List UInt8) : (entN s).length = 2 * (utf16 s).length := by
  unfold entN
  rw [flat_len (leB_len 2)]; omega
theorem entB_len (p : GP) : (entB p).length = 56 + 2 * (utf16 p.nm).length := by rw [entB, List.length_append, entH_len, entN_len]
/-- May the partition stand in the array? -/
def GP.fits (p : GP) : Prop := 1 ≤ p.ix ∧ p.ix ≤ 128 ∧ (utf16 p.nm).length ≤ 36
def arrP (a : List UInt8) (p : GP) : List UInt8 := pAt a (128 * (p.ix - 1).toNat) (entB p)
def arrB (ps : List GP) : List UInt8 := ps.foldl arrP (List.replicate 16384 0)
theorem arrP_len {a : List UInt8} {p : GP} (ha : a.length = 16384) (h : p.fits) : (arrP a p).length = 16384 := by
  obtain ⟨h1, h2, h3⟩ := h
  unfold arrP
  rw [pAt_len (by rw [entB_len]; omega), ha]
theorem foldl_arr_len : ∀ (ps : List GP) (a : List UInt8), a.length = 16384 → (∀ p ∈ ps, p.fits) → (ps.foldl arrP a).length = 16384
  | [], a, ha, h => ha
  | p :: r, a, ha, h => foldl_arr_len r _ (arrP_len ha (h p (.head _))) fun q hq => h q (.tail _ hq)
theorem arrB_len {ps : List GP} (h : ∀ p ∈ ps, p.fits) : (arrB ps).length = 16384 := foldl_arr_len ps _ List.length_replicate h
def efiL : List UInt8 := [69, 70, 73, 32, 80, 65, 82, 84]
/-- A header's first 92 bytes, with a sum. -/
def hdrS (sum : Int) (atL other ent n : Int) (gu : List UInt8) (ca : Int) : List UInt8 :=
  efiL ++ leB 4 65536 ++ leB 4 92 ++ leB 4 sum ++ [0, 0, 0, 0] ++ leB 8 atL ++ leB 8 other ++ leB 8 34 ++ leB 8 (n - 34) ++ gu ++ leB 8 ent ++ leB 4 128 ++ leB 4 128 ++ leB 4 ca
/-- The sector of a header. -/
def hdrB (atL other ent n : Int) (gu : List UInt8) (ca : Int) : List UInt8 := hdrS (crc32 (hdrS 0 atL other ent n gu ca)) atL other ent n gu ca ++ List.replicate 420 0
theorem hdrS_len {s a o e n c : Int} {gu : List UInt8} (h : gu.length = 16) : (hdrS s a o e n gu c).length = 92 := by
  simp only [hdrS, List.length_append, leB_len, h, efiL, List.length_cons, List.length_nil]
theorem hdrB_len {a o e n c : Int} {gu : List UInt8} (h : gu.length = 16) : (hdrB a o e n gu c).length = 512 := by
  unfold hdrB
  rw [List.length_append, hdrS_len h, List.length_replicate]
/-- The protective record's entries. -/
def protM (n : Nat) : List MP := [⟨0, false, 238, 1, (n : Int) - 1, 0, 0, 2, 255, 255, 255⟩, MP.zero, MP.zero, MP.zero]
/-- A table laid on a disk of n sectors. -/
def encB (ds : List UInt8) (n : Nat) (gu : List UInt8) (ps : List GP) : List UInt8 :=
  pAt (pAt (pAt (pAt (mbrB ds (protM n)) 512 (hdrB 1 ((n : Int) - 1) 2 n (gB gu) (crc32 (arrB ps)))) 1024 (arrB ps)) ((n - 33) * 512) (arrB ps)) ((n - 1) * 512) (hdrB ((n : Int) - 1) 1 ((n : Int) - 33) n (gB gu) (crc32 (arrB ps)))
/-! ### bytes put over zeros -/
theorem repl_split {a b : Nat} (h : a ≤ b) : List.replicate b (0 : UInt8) = List.replicate a 0 ++ List.replicate (b - a) 0 := by
  rw [List.replicate_append_replicate]; congr 1; omega
theorem pAt_gap {N o k : Nat} {es fs : List UInt8} (h : o + es.length + k + fs.length ≤ N) : pAt (pAt (List.replicate N 0) o es) (o + es.length + k) fs = pAt (List.replicate N 0) o (es ++ List.replicate k 0 ++ fs) := by
  have e : pAt (List.replicate N 0) o es = pAt (List.replicate N 0) o (es ++ List.replicate k 0) := by
    unfold pAt
    simp only [List.drop_replicate, List.length_append, List.length_replicate, List.append_assoc]
    rw [repl_split (a := k) (b := N - (o + es.length)) (by omega), show N - (o + es.length) - k = N - (o + (es.length + k)) by omega]
  rw [e, pAt_pAt (by rw [List.length_append, List.length_replicate]; omega) (by rw [List.length_replicate]; omega)]
/-- Bytes over a sector of zeros. -/
def pz (es : List UInt8) : List UInt8 := pAt (List.replicate 512 0) 0 es
theorem pz_app {es fs : List UInt8} {p : Nat} (hp : es.length = p) (h : p + fs.length ≤ 512) : pAt (pz es) p fs = pz (es ++ fs) := by
  unfold pz
  exact pAt_pAt (by omega) (by rw [List.length_replicate]; exact h)
theorem pz_gap {es fs : List UInt8} {p : Nat} (k : Nat) (hp : es.length + k = p) (h : p + fs.length ≤ 512) : pAt (pz es) p fs = pz (es ++ List.replicate k 0 ++ fs) := by
  unfold pz
  have := pAt_gap (N := 512) (o := 0) (k := k) (es := es) (fs := fs) (by omega)
  rw [show 0 + es.length + k = p by omega] at this
  exact this
theorem pz_eq {es : List UInt8} (h : es.length ≤ 512) : pz es = es ++ List.replicate (512 - es.length) 0 := by
  unfold pz pAt
  rw [List.drop_replicate, List.take_zero, List.nil_append, Nat.zero_add]
theorem hdr_put {a o e n c : Int} {gu : List UInt8} (h : gu.length = 16) :
    pAt (pAt (pAt (pAt (pAt (pAt (pAt (pAt (pAt (pAt (pAt (pAt (List.replicate 512 0) 0 efiL) 8 (leB 4 65536)) 12 (leB 4 92)) 24 (leB 8 a)) 32 (leB 8 o)) 40 (leB 8 34)) 48 (leB 8 (n - 34))) 56 gu) 72 (leB 8 e)) 80 (leB 4 128)) 84 (leB 4 128)) 88 (leB 4 c) = hdrS 0 a o e n gu c ++ List.replicate 420 0 := by
  have e0 : pAt (List.replicate 512 0) 0 efiL = pz efiL := rfl
  have le : efiL.length = 8 := rfl
  rw [e0]
  rw [pz_app (p := 8) rfl (by rw [leB_len]; decide)]
  rw [pz_app (p := 12) (by simp only [List.length_append, leB_len, le]) (by rw [leB_len]; decide)]
  rw [pz_gap 8 (p := 24) (by simp only [List.length_append, leB_len, le]) (by rw [leB_len]; decide)]
  rw [pz_app (p := 32) (by simp only [List.length_append, leB_len, le, List.length_replicate]) (by rw [leB_len]; decide)]
  rw [pz_app (p := 40) (by simp only [List.length_append, leB_len, le, List.length_replicate]) (by rw [leB_len]; decide)]
  rw [pz_app (p := 48) (by simp only [List.length_append, leB_len, le, List.length_replicate]) (by rw [leB_len]; decide)]
  rw [pz_app (p := 56) (by simp only [List.length_append, leB_len, le, List.length_replicate]) (by rw [h]; decide)]
  rw [pz_app (p := 72) (by simp only [List.length_append, leB_len, le, List.length_replicate, h]) (by rw [leB_len]; decide)]
  rw [pz_app (p := 80) (by simp only [List.length_append, leB_len, le, List.length_replicate, h]) (by rw [leB_len]; decide)]
  rw [pz_app (p := 84) (by simp only [List.length_append, leB_len, le, List.length_replicate, h]) (by rw [leB_len]; decide)]
  rw [pz_app (p := 88) (by simp only [List.length_append, leB_len, le, List.length_replicate, h]) (by rw [leB_len]; decide)]
  have e8 : List.replicate 8 (0 : UInt8) = leB 4 0 ++ [0, 0, 0, 0] := rfl
  have e1 : efiL ++ leB 4 65536 ++ leB 4 92 ++ List.replicate 8 0 ++ leB 8 a ++ leB 8 o ++ leB 8 34 ++ leB 8 (n - 34) ++ gu ++ leB 8 e ++ leB 4 128 ++ leB 4 128 ++ leB 4 c = hdrS 0 a o e n gu c := by
    rw [e8]; unfold hdrS; simp only [List.append_assoc]
  rw [e1, pz_eq (by rw [hdrS_len h]; decide), hdrS_len h]
theorem hdr_sum {s a o e n c : Int} {gu : List UInt8} (h : gu.length = 16) (r : List UInt8) : pAt (hdrS 0 a o e n gu c ++ r) 16 (leB 4 s) = hdrS s a o e n gu c ++ r := by
  have e1 : (efiL ++ leB 4 65536 ++ leB 4 92).length = 16 := by simp only [List.length_append, leB_len]; rfl
  have e2 : ∀ t : Int, hdrS t a o e n gu c ++ r = (efiL ++ leB 4 65536 ++ leB 4 92) ++ (leB 4 t ++ ([0, 0, 0, 0] ++ leB 8 a ++ leB 8 o ++ leB 8 34 ++ leB 8 (n - 34) ++ gu ++ leB 8 e ++ leB 4 128 ++ leB 4 128 ++ leB 4 c ++ r)) := fun t => by
    unfold hdrS; simp only [List.append_assoc]
  rw [e2, e2]
  generalize efiL ++ leB 4 65536 ++ leB 4 92 = x at e1
  generalize [0, 0, 0, 0] ++ leB 8 a ++ leB 8 o ++ leB 8 34 ++ leB 8 (n - 34) ++ gu ++ leB 8 e ++ leB 4 128 ++ leB 4 128 ++ leB 4 c ++ r = y
  unfold pAt
  rw [List.take_append_of_le_length (by omega), List.take_of_length_le (by omega), leB_len, List.drop_append, e1, List.drop_of_length_le (by omega), List.nil_append, List.drop_append, leB_len, List.drop_of_length_le (by rw [leB_len]; decide), List.nil_append, List.append_assoc]
  rfl
theorem ent_head {cur : List UInt8} {o : Nat} {p : GP} (h : o + 128 ≤ cur.length) : pAt (pAt (pAt (pAt (pAt cur o (gB p.ty)) (o + 16) (gB p.gu)) (o + 32) (leB 8 p.st)) (o + 40) (leB 8 p.en)) (o + 48) (leB 8 p.att) = pAt cur o (entH p) := by
  rw [pAt_pAt (cur := cur) (o := o) (by rw [gB_len]) (by rw [gB_len]; omega)]
  rw [pAt_pAt (cur := cur) (o := o) (by simp only [List.length_append, gB_len]) (by rw [leB_len]; omega)]
  rw [pAt_pAt (cur := cur) (o := o) (by simp only [List.length_append, gB_len, leB_len]) (by rw [leB_len]; omega)]
  rw [pAt_pAt (cur := cur) (o := o) (by simp only [List.length_append, gB_len, leB_len]) (by rw [leB_len]; omega)]
  rfl
theorem ent_unit {cur : List UInt8} {o i : Nat} {p : GP} {u : Int} (h : o + 128 ≤ cur.length) (h36 : (utf16 p.nm).length ≤ 36) (hu : (utf16 p.nm)[i]? = some u) : pAt (pAt cur o (entH p ++ ((utf16 p.nm).take i).flatMap (leB 2))) (o + (56 + 2 * i)) (leB 2 u) = pAt cur o (entH p ++ ((utf16 p.nm).take (i + 1)).flatMap (leB 2)) := by
  have hi := (List.getElem?_eq_some_iff.1 hu).1
  have hl : (((utf16 p.nm).take i).flatMap (leB 2)).length = i * 2 := by rw [flat_len (leB_len 2)]; congr 1; simp; omega
  rw [pAt_pAt (by rw [List.length_append, entH_len, hl]; omega) (by rw [leB_len]; omega), take_succ_get hu]
  simp only [List.flatMap_append, List.flatMap_singleton, List.append_assoc]
theorem u16_rng {c : Nat} (h : c ≤ 1114111) : ∀ u ∈ u16 c, 0 ≤ u ∧ u ≤ 65535 := by
  intro u hu
  unfold u16 at hu
  split at hu
  · simp at hu; omega
  · simp at hu; omega
theorem utf16_rng : ∀ (n : Nat) (bs : List UInt8), bs.length ≤ n → ∀ u ∈ utf16 bs, 0 ≤ u ∧ u ≤ 65535
  | 0, bs, h, u, hu => by
    have : bs = [] := List.eq_nil_of_length_eq_zero (by omega)
    subst this; simp [utf16_nil] at hu
  | n + 1, bs, h, u, hu => by
    by_cases hb : bs = []
    · subst hb; simp [utf16_nil] at hu
    · have h1 := rune1_ok hb
      have hl : 0 < bs.length := List.length_pos_iff.2 hb
      have e := utf16_at (bs := bs) (pos := 0) hl
      rw [List.drop_zero, Nat.zero_add] at e
      rw [e] at hu
      obtain ⟨g1, g2, g3, g4, _⟩ := h1
      rcases List.mem_append.1 hu with hu | hu
      · exact u16_rng g4 u hu
      · exact utf16_rng n _ (by rw [List.length_drop]; omega) u hu
theorem hdr_take {s a o e n c : Int} {gu r : List UInt8} (h : gu.length = 16) : ((hdrS s a o e n gu c ++ r).drop 0).take 92 = hdrS s a o e n gu c := by
  rw [List.drop_zero, List.take_append_of_le_length (by rw [hdrS_len h]; decide), List.take_of_length_le (by rw [hdrS_len h]; decide)]
theorem sh_bytes1 {w0 w : World} {S : List Nat} {b : Nat} {x : Ent} {T : TypeId} {L : List Ent} {cur cur' : List UInt8} {m : Bool} {fr : Nat × Nat} (H : SH w0 S w (x :: ⟨b, .cells (Bs cur).toArray T fr, m⟩ :: L)) (e : cur = cur') : SH w0 S w (x :: ⟨b, .cells (Bs cur').toArray T fr, m⟩ :: L) := e ▸ H
end Go.Proofs.Ythcaejaaalkglaa.X
/- Walks of functions, printed by a program of this claim. -/
namespace Go.Proofs.Ythcaejaaalkglaa.X
set_option linter.unusedVariables false
set_option linter.unusedSimpArgs false
open Go Go.RowKit

namespace P5
theorem ag60_16 : aggB Try.prog 60 16 = true := by kernel_rfl
theorem ca22 : callable Try.prog 22 = true := by kernel_rfl
theorem ca23 : callable Try.prog 23 = true := by kernel_rfl
theorem ca31 : callable Try.prog 31 = true := by kernel_rfl
theorem fo46_1 : fieldOff Try.prog 46 1 = some 1 := by kernel_rfl
theorem fo46_2 : fieldOff Try.prog 46 2 = some 2 := by kernel_rfl
theorem fo46_4 : fieldOff Try.prog 46 4 = some 4 := by kernel_rfl
theorem fo46_5 : fieldOff Try.prog 46 5 = some 5 := by kernel_rfl
theorem fo46_6 : fieldOff Try.prog 46 6 = some 6 := by kernel_rfl
theorem fo46_7 : fieldOff Try.prog 46 7 = some 7 := by kernel_rfl
theorem sc22 : scalarB Try.prog 22 = true := by kernel_rfl
theorem sc30 : scalarB Try.prog 30 = true := by kernel_rfl
theorem sc9 : scalarB Try.prog 9 = true := by kernel_rfl
theorem sz22_1 : sizeB Try.prog 22 1 = true := by kernel_rfl
theorem sz5_1 : sizeB Try.prog 5 1 = true := by kernel_rfl
theorem ze60 : zeroL Try.prog 60 = some [.int .u8 0, .int .u8 0, .int .u8 0, .int .u8 0, .int .u8 0, .int .u8 0, .int .u8 0, .int .u8 0, .int .u8 0, .int .u8 0, .int .u8 0, .int .u8 0, .int .u8 0, .int .u8 0, .int .u8 0, .int .u8 0] := by kernel_rfl

end P5
open P5

set_option maxRecDepth 100000 in
set_option maxHeartbeats 1000000 in
theorem c_gptEntry (w : World) (b o n c : Nat) (T : TypeId) (cur : List UInt8) (p : GP) (hb : w.heap[b]? = some (.cells (Bs cur).toArray T (0, 0))) (hn : n = 128) (hc : n ≤ c) (ho : o + n ≤ cur.length) (hp : p.ok) (hf : p.fit) (h36 : (utf16 p.nm).length ≤ 36) : Calls Try.prog 21 #[.slice (some ⟨b, o, none⟩) n c, .agg p.cells.toArray] w (Ret fun v w' => v = .tuple #[] ∧ (pAt cur o (entB p)).length = cur.length ∧ Fr [b] w w' ∧ w'.heap[b]? = some (.cells (Bs (pAt cur o (entB p))).toArray T (0, 0))) := by
  refine enter (fun _ => .tuple #[]) Try.func21 rfl rfl rfl (res0 rfl) ?_
  have H := SH.rw1 hb
  have hst := hp.st; have hen := hp.en; have hat := hp.att; have hnm := hf.nm
  refine sq ?_
  refine rg ?_
  refine bx (v := .agg _) H rfl rfl rfl ?_
  clear H; intro b1 w1 hb1 H _
  refine nl ?_
  refine then_n ?_
  refine sq ?_
  refine rg ?_
  refine fa rfl fo46_4 rfl ?_
  first | refine ld H rfl sc9 rfl rfl ?_ | refine lc rfl (by first | assumption | exact H.fr.cell (by assumption) (by simp)) sc9 rfl ?_ | refine ld H rfl sc9 (by assumption) rfl ?_
  refine cl ca23 (c_guidBytes _ _) rfl ?_
  rintro _ w2 ⟨rfl, F⟩
  replace H := H.keep F; clear F
  refine mv (v := .tuple _) rfl rfl ?_
  refine xt rfl rfl rfl ?_
  refine xt rfl rfl rfl ?_
  refine al H ze60 rfl ?_
  clear H; intro b2 w3 hb2 H _
  refine sa (cs' := Bs (gB p.ty)) H rfl rfl ag60_16 (by rw [Bs_length, gB_len]) (List.all_eq_true.2 Bs_one) (by decide) (by omega) (List.append_nil _) ?_
  clear H; intro w91 H _
  refine asg (v := .bool _) rfl rfl ?_
  refine nl ?_
  refine then_n ?_
  refine sq ?_
  refine rg ?_
  refine fa rfl fo46_6 rfl ?_
  first | refine ld H rfl sc9 rfl rfl ?_ | refine lc rfl (by first | assumption | exact H.fr.cell (by assumption) (by simp)) sc9 rfl ?_ | refine ld H rfl sc9 (by assumption) rfl ?_
  refine cl ca23 (c_guidBytes _ _) rfl ?_
  rintro _ w4 ⟨rfl, F⟩
  replace H := H.keep F; clear F
  refine mv (v := .tuple _) rfl rfl ?_
  refine xt rfl rfl rfl ?_
  refine xt rfl rfl rfl ?_
  refine al H ze60 rfl ?_
  clear H; intro b3 w5 hb3 H _
  refine sa (cs' := Bs (gB p.gu)) H rfl rfl ag60_16 (by rw [Bs_length, gB_len]) (List.all_eq_true.2 Bs_one) (by decide) (by omega) (List.append_nil _) ?_
  clear H; intro w92 H _
  refine asg (v := .bool _) rfl rfl ?_
  refine nl ?_
  refine then_n ?_
  refine sq ?_
  refine rg ?_
  refine mv (v := .slice _ _ _) rfl rfl ?_
  refine slY rfl Try.underlying60 sz5_1 (by first | trivial | omega | (simp; omega)) rfl ?_
  refine cpP (bs := gB p.ty) H rfl rfl Try.underlying23 sz5_1 (RB.allm H (gB_len p.ty)) (by omega) (by first | omega | (rw [pAt_len (by rw [gB_len]; omega)]; omega)) (by omega) rfl ?_
  clear H; intro w6 H _ hlen
  refine nl ?_
  refine then_n ?_
  refine sq ?_
  refine dr (by kernel_rfl) ?_   -- region 4
  have H := H.drew
  refine hold (fun w' => SH w [b] w' [⟨b3, .cells (Bs (gB p.gu)).toArray 60 (0, 0), true⟩, ⟨b2, .cells (Bs (gB p.ty)).toArray 60 (0, 0), true⟩, ⟨b1, .cells p.cells.toArray 46 (0, 0), true⟩]) [] ?_
  refine tk (i := 0) rfl (by kernel_rfl) rfl (H.sub (by repeat (first | exact List.Sublist.refl _ | exact List.nil_sublist _ | apply List.Sublist.cons_cons | apply List.Sublist.cons))) (fun w' H => r_mv (v := .slice _ _ _) rfl) ?_
  refine tk (i := 1) rfl (by kernel_rfl) rfl (H.sub (by repeat (first | exact List.Sublist.refl _ | exact List.nil_sublist _ | apply List.Sublist.cons_cons | apply List.Sublist.cons))) (fun w' H => r_sllN (o + 16) (112) (c - 16) rfl rfl Try.underlying23 sz5_1 (by omega) (by omega)) ?_
  refine tk (i := 2) rfl (by kernel_rfl) rfl (H.sub (by repeat (first | exact List.Sublist.refl _ | exact List.nil_sublist _ | apply List.Sublist.cons_cons | apply List.Sublist.cons))) (fun w' H => r_slY rfl Try.underlying60 sz5_1 (by first | trivial | omega | (simp; omega))) ?_
  refine fk (i := 3) (by kernel_rfl) rfl rfl rfl ?_
  refine cpP (bs := gB p.gu) H rfl rfl Try.underlying23 sz5_1 (RB.allm H (gB_len p.gu)) (by omega) (by first | omega | (rw [pAt_len (by rw [gB_len]; omega)]; omega)) (by omega) rfl ?_
  clear H; intro w7 H _ hlen
  refine nl ?_
  refine then_n ?_
  refine ⟨H.sub (by repeat (first | exact List.Sublist.refl _ | exact List.nil_sublist _ | apply List.Sublist.cons_cons | apply List.Sublist.cons)), ?_⟩
  refine da (by kernel_rfl) ?_
  refine then_n ?_
  refine sq ?_
  refine dr (by kernel_rfl) ?_   -- region 5
  have H := H.drew
  refine hold (fun w' => SH w [b] w' [⟨b3, .cells (Bs (gB p.gu)).toArray 60 (0, 0), true⟩, ⟨b2, .cells (Bs (gB p.ty)).toArray 60 (0, 0), true⟩, ⟨b1, .cells p.cells.toArray 46 (0, 0), true⟩]) [] ?_
  refine tk (i := 0) rfl (by kernel_rfl) rfl (H.sub (by repeat (first | exact List.Sublist.refl _ | exact List.nil_sublist _ | apply List.Sublist.cons_cons | apply List.Sublist.cons))) (fun w' H => r_mv (v := .slice _ _ _) rfl) ?_
  refine tk (i := 1) rfl (by kernel_rfl) rfl (H.sub (by repeat (first | exact List.Sublist.refl _ | exact List.nil_sublist _ | apply List.Sublist.cons_cons | apply List.Sublist.cons))) (fun w' H => r_sllhN (o + 32) (8) (c - 32) rfl rfl rfl Try.underlying23 sz5_1 (by omega) (by omega)) ?_
  refine tk (i := 2) rfl (by kernel_rfl) rfl (H.sub (by repeat (first | exact List.Sublist.refl _ | exact List.nil_sublist _ | apply List.Sublist.cons_cons | apply List.Sublist.cons))) (fun w' H => r_fa rfl fo46_1) ?_
  first | refine tk (i := 3) rfl (by kernel_rfl) rfl (H.sub (by repeat (first | exact List.Sublist.refl _ | exact List.nil_sublist _ | apply List.Sublist.cons_cons | apply List.Sublist.cons))) (fun w' H => r_ld H rfl sc30 rfl) ?_ | refine tk (i := 3) rfl (by kernel_rfl) rfl (H.sub (by repeat (first | exact List.Sublist.refl _ | exact List.nil_sublist _ | apply List.Sublist.cons_cons | apply List.Sublist.cons))) (fun w' H => r_lc rfl (by first | assumption | exact H.fr.cell (by assumption) (by simp)) sc30) ?_ | refine tk (i := 3) rfl (by kernel_rfl) rfl (H.sub (by repeat (first | exact List.Sublist.refl _ | exact List.nil_sublist _ | apply List.Sublist.cons_cons | apply List.Sublist.cons))) (fun w' H => r_ld H rfl sc30 (by assumption)) ?_
  refine fk (i := 4) (by kernel_rfl) rfl rfl rfl ?_
  refine cl ca22 (c_putLe _ _ _ _ _ _ _ _ H.look (by first | omega | ((try simp only [pAt_length, leB_len, gB_len, List.length_set, List.length_replicate]); omega)) (by omega)) rfl ?_
  rintro _ w8 ⟨rfl, hlen, F, hnew⟩
  replace H := H.put F hnew; clear F hnew
  refine nl ?_
  refine then_n ?_
  refine ⟨H.sub (by repeat (first | exact List.Sublist.refl _ | exact List.nil_sublist _ | apply List.Sublist.cons_cons | apply List.Sublist.cons)), ?_⟩
  refine da (by kernel_rfl) ?_
  refine then_n ?_
  refine sq ?_
  refine dr (by kernel_rfl) ?_   -- region 6
  have H := H.drew
  refine hold (fun w' => SH w [b] w' [⟨b3, .cells (Bs (gB p.gu)).toArray 60 (0, 0), true⟩, ⟨b2, .cells (Bs (gB p.ty)).toArray 60 (0, 0), true⟩, ⟨b1, .cells p.cells.toArray 46 (0, 0), true⟩]) [] ?_
  refine tk (i := 0) rfl (by kernel_rfl) rfl (H.sub (by repeat (first | exact List.Sublist.refl _ | exact List.nil_sublist _ | apply List.Sublist.cons_cons | apply List.Sublist.cons))) (fun w' H => r_mv (v := .slice _ _ _) rfl) ?_
  refine tk (i := 1) rfl (by kernel_rfl) rfl (H.sub (by repeat (first | exact List.Sublist.refl _ | exact List.nil_sublist _ | apply List.Sublist.cons_cons | apply List.Sublist.cons))) (fun w' H => r_sllhN (o + 40) (8) (c - 40) rfl rfl rfl Try.underlying23 sz5_1 (by omega) (by omega)) ?_
  refine tk (i := 2) rfl (by kernel_rfl) rfl (H.sub (by repeat (first | exact List.Sublist.refl _ | exact List.nil_sublist _ | apply List.Sublist.cons_cons | apply List.Sublist.cons))) (fun w' H => r_fa rfl fo46_2) ?_
  first | refine tk (i := 3) rfl (by kernel_rfl) rfl (H.sub (by repeat (first | exact List.Sublist.refl _ | exact List.nil_sublist _ | apply List.Sublist.cons_cons | apply List.Sublist.cons))) (fun w' H => r_ld H rfl sc30 rfl) ?_ | refine tk (i := 3) rfl (by kernel_rfl) rfl (H.sub (by repeat (first | exact List.Sublist.refl _ | exact List.nil_sublist _ | apply List.Sublist.cons_cons | apply List.Sublist.cons))) (fun w' H => r_lc rfl (by first | assumption | exact H.fr.cell (by assumption) (by simp)) sc30) ?_ | refine tk (i := 3) rfl (by kernel_rfl) rfl (H.sub (by repeat (first | exact List.Sublist.refl _ | exact List.nil_sublist _ | apply List.Sublist.cons_cons | apply List.Sublist.cons))) (fun w' H => r_ld H rfl sc30 (by assumption)) ?_
  refine fk (i := 4) (by kernel_rfl) rfl rfl rfl ?_
  refine cl ca22 (c_putLe _ _ _ _ _ _ _ _ H.look (by first | omega | ((try simp only [pAt_length, leB_len, gB_len, List.length_set, List.length_replicate]); omega)) (by omega)) rfl ?_
  rintro _ w9 ⟨rfl, hlen, F, hnew⟩
  replace H := H.put F hnew; clear F hnew
  refine nl ?_
  refine then_n ?_
  refine ⟨H.sub (by repeat (first | exact List.Sublist.refl _ | exact List.nil_sublist _ | apply List.Sublist.cons_cons | apply List.Sublist.cons)), ?_⟩
  refine da (by kernel_rfl) ?_
  refine then_n ?_
  refine sq ?_
  refine dr (by kernel_rfl) ?_   -- region 7
  have H := H.drew
  refine hold (fun w' => SH w [b] w' [⟨b3, .cells (Bs (gB p.gu)).toArray 60 (0, 0), true⟩, ⟨b2, .cells (Bs (gB p.ty)).toArray 60 (0, 0), true⟩, ⟨b1, .cells p.cells.toArray 46 (0, 0), true⟩]) [] ?_
  refine tk (i := 0) rfl (by kernel_rfl) rfl (H.sub (by repeat (first | exact List.Sublist.refl _ | exact List.nil_sublist _ | apply List.Sublist.cons_cons | apply List.Sublist.cons))) (fun w' H => r_mv (v := .slice _ _ _) rfl) ?_
  refine tk (i := 1) rfl (by kernel_rfl) rfl (H.sub (by repeat (first | exact List.Sublist.refl _ | exact List.nil_sublist _ | apply List.Sublist.cons_cons | apply List.Sublist.cons))) (fun w' H => r_sllhN (o + 48) (8) (c - 48) rfl rfl rfl Try.underlying23 sz5_1 (by omega) (by omega)) ?_
  refine tk (i := 2) rfl (by kernel_rfl) rfl (H.sub (by repeat (first | exact List.Sublist.refl _ | exact List.nil_sublist _ | apply List.Sublist.cons_cons | apply List.Sublist.cons))) (fun w' H => r_fa rfl fo46_7) ?_
  first | refine tk (i := 3) rfl (by kernel_rfl) rfl (H.sub (by repeat (first | exact List.Sublist.refl _ | exact List.nil_sublist _ | apply List.Sublist.cons_cons | apply List.Sublist.cons))) (fun w' H => r_ld H rfl sc30 rfl) ?_ | refine tk (i := 3) rfl (by kernel_rfl) rfl (H.sub (by repeat (first | exact List.Sublist.refl _ | exact List.nil_sublist _ | apply List.Sublist.cons_cons | apply List.Sublist.cons))) (fun w' H => r_lc rfl (by first | assumption | exact H.fr.cell (by assumption) (by simp)) sc30) ?_ | refine tk (i := 3) rfl (by kernel_rfl) rfl (H.sub (by repeat (first | exact List.Sublist.refl _ | exact List.nil_sublist _ | apply List.Sublist.cons_cons | apply List.Sublist.cons))) (fun w' H => r_ld H rfl sc30 (by assumption)) ?_
  refine fk (i := 4) (by kernel_rfl) rfl rfl rfl ?_
  refine cl ca22 (c_putLe _ _ _ _ _ _ _ _ H.look (by first | omega | ((try simp only [pAt_length, leB_len, gB_len, List.length_set, List.length_replicate]); omega)) (by omega)) rfl ?_
  rintro _ w10 ⟨rfl, hlen, F, hnew⟩
  replace H := H.put F hnew; clear F hnew
  refine nl ?_
  refine then_n ?_
  refine ⟨H.sub (by repeat (first | exact List.Sublist.refl _ | exact List.nil_sublist _ | apply List.Sublist.cons_cons | apply List.Sublist.cons)), ?_⟩
  refine da (by kernel_rfl) ?_
  refine then_n ?_
  refine sq ?_
  refine rg ?_
  refine fa rfl fo46_5 rfl ?_
  first | refine ld H rfl sc9 rfl rfl ?_ | refine lc rfl (by first | assumption | exact H.fr.cell (by assumption) (by simp)) sc9 rfl ?_ | refine ld H rfl sc9 (by assumption) rfl ?_
  refine cl ca31 (c_utf16 _ _ (by omega)) rfl ?_
  rintro _ w11 ⟨DU, capU, rfl, O⟩
  replace O := O.join H; clear H; have H := O.sh
  refine lnS rfl Try.underlying79 rfl ?_
  refine mv (v := .int .i64 _) rfl rfl ?_
  refine nl ?_
  refine then_n ?_
  refine bk ?_
  refine lpM (α := Nat) [8, 9, 48, 49, 50, 51, 52, 53, 54, 55, 56, 57, 58, 59, 60, 61, 62, 63, 64] (fun i => [(48, .int .i64 (i : Int))]) (fun i w' => i ≤ (utf16 p.nm).length ∧ OR 22 1 w [b] w' [⟨b3, .cells (Bs (gB p.gu)).toArray 60 (0, 0), true⟩, ⟨b2, .cells (Bs (gB p.ty)).toArray 60 (0, 0), true⟩, ⟨b1, .cells p.cells.toArray 46 (0, 0), true⟩, ⟨b, .cells (Bs (pAt cur o (entH p ++ ((utf16 p.nm).take i).flatMap (leB 2)))).toArray T (0, 0), true⟩] DU (utf16 p.nm).length capU ((utf16 p.nm).map (Value.int .u16))) (fun i => (utf16 p.nm).length - i) 0 ?_ (fC (by first | rfl | exact congrArg (Value.int _) (by first | omega | assumption | (symm; assumption) | (simp; done) | (simp; omega)) | exact congrArg (fun n => Value.slice _ n _) (by first | omega | (simp; done) | (simp; omega))) (fN _)) ?_   -- loop 1
  · exact ⟨by omega, by rw [ent_head (by omega)] at O; rw [List.take_zero, List.flatMap_nil, List.append_nil]; exact O⟩
  · rintro i ρx w12 ⟨hi, O⟩
    have H := O.sh
    have hel := entH_len p
    refine sq ?_
    refine rg ?_
    refine lss rfl rfl rfl ?_
    refine nl ?_
    refine then_n ?_
    refine sq ?_
    first | refine cd rfl (fun hc1 => ?_) (fun hc1 => ?_) | refine cn rfl (fun hc1 => ?_) (fun hc1 => ?_)   -- test 1
    · obtain ⟨u, hu⟩ : ∃ u, (utf16 p.nm)[i]? = some u := ⟨_, List.getElem?_eq_getElem (by omega)⟩
      have hur := utf16_rng _ _ (Nat.le_refl _) u (List.mem_of_getElem? hu)
      obtain ⟨ad, rfl⟩ := O.some_of (by omega)
      have hcell := O.one (v := .int .u16 u) (by rw [List.getElem?_map, hu]; rfl)
      refine sk ?_
      refine then_n ?_
      refine sq ?_
      refine bk ?_
      refine sq ?_
      refine rg ?_
      refine mv (v := .int .i64 _) rfl rfl ?_
      refine iBN (ad.add i) rfl rfl Try.underlying79 sz22_1 (by omega) (by simp) rfl ?_
      first | refine ld H rfl sc22 rfl rfl ?_ | refine lc rfl (by first | assumption | exact H.fr.cell (by assumption) (by simp)) sc22 rfl ?_ | refine ld H rfl sc22 (by assumption) rfl ?_
      refine asg (v := .int .i64 _) rfl rfl ?_
      refine asg (v := .int .u16 _) rfl rfl ?_
      refine nl ?_
      refine then_n ?_
      refine rg ?_
      refine mv (v := .slice _ _ _) rfl rfl ?_
      refine mv (v := .int .i64 _) rfl rfl ?_
      refine mul rfl rfl (by first | exact w_i64 (by omega) | exact w_i64 (rng_i64 _) | rfl) rfl ?_
      refine add rfl rfl (by first | exact w_i64 (by omega) | exact w_i64 (rng_i64 _) | rfl) rfl ?_
      refine mv (v := .int .i64 _) rfl rfl ?_
      refine mul rfl rfl (by first | exact w_i64 (by omega) | exact w_i64 (rng_i64 _) | rfl) rfl ?_
      refine add rfl rfl (by first | exact w_i64 (by omega) | exact w_i64 (rng_i64 _) | rfl) rfl ?_
      refine sllhN (o + (56 + 2 * i)) (2) (c - (56 + 2 * i)) rfl rfl rfl Try.underlying23 sz5_1 (by omega) (by omega) rfl ?_
      refine mv (v := .int .u16 _) rfl rfl ?_
      refine cvi rfl rfl Try.underlying30 (by first | exact w_u64 (by omega) | exact w_u64 (rng_u64 _) | exact m_u64 _) rfl ?_
      refine cl ca22 (c_putLe _ _ _ _ _ _ _ _ H.look (by (try simp only [pAt_length]); omega) (by omega)) rfl ?_
      rintro _ w13 ⟨rfl, hlen, F, hnew⟩
      replace H := H.put F hnew; replace O := O.put F hnew; clear F hnew
      refine nl ?_
      refine in_n ?_
      refine then_n ?_
      refine rg ?_
      refine add rfl rfl (by first | exact w_i64 (by omega) | exact w_i64 (rng_i64 _) | rfl) rfl ?_
      refine mv (v := .int .i64 _) rfl rfl ?_
      refine nl ?_
      refine loop_n ?_
      exact ⟨i + 1, (by (try dsimp only); omega), ⟨by omega, by rw [← ent_unit (by omega) h36 hu]; exact O⟩, (fC (by first | rfl | exact congrArg (Value.int _) (by first | omega | assumption | (symm; assumption) | (simp; done) | (simp; omega)) | exact congrArg (fun n => Value.slice _ n _) (by first | omega | (simp; done) | (simp; omega))) (fN _)), (by repeat (first | exact Agree.setL rfl Agree.mask | exact Agree.self _ _ | refine Agree.upd rfl ?_ | refine Agree.setL rfl ?_ | refine Agree.mask2 rfl ?_))⟩
    · refine ex ?_
      refine then_e ?_
      refine loop_e ?_
      refine in_hit rfl ?_
      refine fin_n ?_
      obtain rfl : i = (utf16 p.nm).length := by omega
      have e := O.sh.look (b := b)
      rw [List.take_length] at e
      exact ⟨rfl, pAt_len (by rw [entB_len]; omega), O.sh.fr, e⟩

end Go.Proofs.Ythcaejaaalkglaa.X
/- Rows of partitions in memory. -/
namespace Go.Proofs.Ythcaejaaalkglaa.X
open Go
set_option linter.unusedVariables false
theorem flatN_index {α : Type} {f : α → List Value} {k : Nat} (hk : 0 < k) (hf : ∀ x, (f x).length = k) {qs : List α} : ∀ (j : Nat) (u : Value), (qs.flatMap f)[j]? = some u → ∃ q, qs[j / k]? = some q ∧ (f q)[j % k]? = some u := by
  induction qs with
  | nil => intro j u h; simp at h
  | cons q l ih =>
    intro j u h
    simp only [List.flatMap_cons] at h
    by_cases hj : j < k
    · rw [List.getElem?_append_left (by rw [hf]; exact hj)] at h
      rw [Nat.div_eq_of_lt hj, Nat.mod_eq_of_lt hj]
      exact ⟨q, rfl, h⟩
    · rw [List.getElem?_append_right (by rw [hf]; omega), hf] at h
      obtain ⟨q', h1, h2⟩ := ih _ _ h
      have e : j = (j - k) + k := by omega
      refine ⟨q', ?_, ?_⟩
      · rw [e, Nat.add_div_right _ hk]; simpa using h1
      · rw [e, Nat.add_mod_right]; exact h2
/-- A slice of partitions, to be read. -/
structure RG (w : World) (D : Option Addr) (m c : Nat) (ps : List GP) : Prop where
  len : ps.length = m
  cap : m ≤ c ∧ c ≤ maxLen
  nil : D = none → m = 0
  at' : ∀ j u, (ps.flatMap GP.cells)[j]? = some u → ∃ ad, D = some ad ∧ w.cell? (ad.add j) = some u
  ok : ∀ p ∈ ps, p.ok
theorem RG.keep {w w' : World} {A : Option Addr} {m c : Nat} {qs : List GP} (h : RG w A m c qs) (f : Fr [] w w') : RG w' A m c qs :=
  ⟨h.len, h.cap, h.nil, fun j u hu => let ⟨ad, e, hc⟩ := h.at' j u hu; ⟨ad, e, f.cell hc (by simp)⟩, h.ok⟩
theorem RG.elem {w : World} {ad : Addr} {m c i : Nat} {qs : List GP} {q : GP} (h : RG w (some ad) m c qs) (hq : qs[i]? = some q) : ∀ j v, q.cells[j]? = some v → w.cell? ((ad.add (i * 8)).add j) = some v := by
  intro j v hv
  have hg := flat_get GP.cells_len qs i q hq
  have hj : j < 8 := by have := (List.getElem?_eq_some_iff.1 hv).1; rwa [GP.cells_len] at this
  have e : (qs.flatMap GP.cells)[i * 8 + j]? = some v := by
    rw [← hv, ← hg, List.getElem?_take, if_pos hj, List.getElem?_drop]
  obtain ⟨ad', he, hc⟩ := h.at' _ v e
  obtain rfl := Option.some.inj he
  rw [Addr.add_add]; exact hc
theorem RG.some_of {w : World} {D : Option Addr} {m c : Nat} {qs : List GP} (h : RG w D m c qs) (hm : 0 < m) : ∃ ad, D = some ad := by
  cases D with
  | none => have := h.nil rfl; omega
  | some ad => exact ⟨ad, rfl⟩
theorem RG.of_own {e : TypeId} {w0 : World} {S : List Nat} {w : World} {L : List Ent} {A : Option Addr} {cap : Nat} {ps : List GP} (O : OR e 8 w0 S w L A ps.length cap (ps.flatMap GP.cells)) (ok : ∀ p ∈ ps, p.ok) : RG w A ps.length cap ps := by
  refine ⟨rfl, O.cap_ge, fun h => ?_, O.cells, ok⟩
  rcases O.own with ⟨_, h2, _⟩ | ⟨b, cur, h2, _⟩
  · exact h2
  · rw [h] at h2; cases h2
theorem gp_one {qs : List GP} : ∀ u ∈ qs.flatMap GP.cells, u.oneCell' = true := by
  intro u hu
  obtain ⟨q, _, hq⟩ := List.mem_flatMap.1 hu
  simp [GP.cells] at hq
  rcases hq with h | h | h | h | h | h | h | h <;> subst h <;> rfl
theorem arr_take {ps : List GP} {i : Nat} {p : GP} (h : ps[i]? = some p) : (ps.take (i + 1)).foldl arrP (List.replicate 16384 0) = arrP ((ps.take i).foldl arrP (List.replicate 16384 0)) p := by
  rw [take_succ_get h, List.foldl_append]; rfl
theorem protM_ok {n : Nat} (h : 80 ≤ n ∧ n ≤ 100000) : ∀ p ∈ protM n, p.ok := by
  intro p hp
  simp only [protM, List.mem_cons, List.not_mem_nil, or_false] at hp
  rcases hp with rfl | rfl | rfl | rfl
  · constructor <;> simp only <;> omega
  · exact MP.zero_ok
  · exact MP.zero_ok
  · exact MP.zero_ok
end Go.Proofs.Ythcaejaaalkglaa.X
