/- Laws and walks on the road to the statement: P4, P5, P6. -/
import Derived.Test.YthcaejaaalkglaaDoorM3
/- Walks of functions, printed by a program of this claim. -/
namespace Go.Proofs.YthcaejaaalkglaaDoor.X
set_option linter.unusedVariables false
set_option linter.unusedSimpArgs false
open Go Go.RowKit

namespace P4
theorem ag59_11 : aggB Tryd.prog 59 11 = true := by kernel_rfl
theorem ag60_44 : aggB Tryd.prog 60 44 = true := by kernel_rfl
theorem ca43 : callable Tryd.prog 43 = true := by kernel_rfl
theorem fo59_1 : fieldOff Tryd.prog 59 1 = some 1 := by kernel_rfl
theorem fo59_2 : fieldOff Tryd.prog 59 2 = some 2 := by kernel_rfl
theorem fo59_3 : fieldOff Tryd.prog 59 3 = some 3 := by kernel_rfl
theorem fo59_4 : fieldOff Tryd.prog 59 4 = some 4 := by kernel_rfl
theorem fo59_5 : fieldOff Tryd.prog 59 5 = some 5 := by kernel_rfl
theorem mi5 : elemInfo Tryd.prog 5 = some (.int .u8 0, 1) := by kernel_rfl
theorem sc4 : scalarB Tryd.prog 4 = true := by kernel_rfl
theorem sc5 : scalarB Tryd.prog 5 = true := by kernel_rfl
theorem sc53 : scalarB Tryd.prog 53 = true := by kernel_rfl
theorem sz5_1 : sizeB Tryd.prog 5 1 = true := by kernel_rfl
theorem ze59 : zeroL Tryd.prog 59 = some [.int .i64 0, .bool false, .int .u8 0, .int .u32 0, .int .u32 0, .int .u8 0, .int .u8 0, .int .u8 0, .int .u8 0, .int .u8 0, .int .u8 0] := by kernel_rfl

end P4
open P4

set_option maxRecDepth 100000 in
set_option maxHeartbeats 1000000 in
theorem c_putLe (w : World) (b o n c : Nat) (x : Int) (T : TypeId) (cur : List UInt8) (hb : w.heap[b]? = some (.cells (Bs cur).toArray T (0, 0))) (ho : o + n ≤ cur.length) (hn : n ≤ 9223372036854775806) : Calls Tryd.prog 43 #[.slice (some ⟨b, o, none⟩) n c, .int .u64 x] w (Ret fun v w' => v = .tuple #[] ∧ (pAt cur o (leB n x)).length = cur.length ∧ Fr [b] w w' ∧ w'.heap[b]? = some (.cells (Bs (pAt cur o (leB n x))).toArray T (0, 0))) := by
  refine enter (fun _ => .tuple #[]) Tryd.func43 rfl rfl rfl (res0 rfl) ?_
  have H := SH.rw1 hb
  refine sq ?_
  refine rg ?_
  refine mv (v := .slice _ _ _) rfl rfl ?_
  refine lnS rfl Tryd.underlying30 rfl ?_
  refine mv (v := .int .i64 _) rfl rfl ?_
  refine nl ?_
  refine then_n ?_
  refine bk ?_
  have e0 : x = x / 256 ^ 0 := by simp
  refine lpM (α := Nat) [1, 4, 7, 8, 9, 10, 11, 12, 13, 14, 15, 16, 17] (fun i => [(1, .int .u64 (x / 256 ^ i)), (7, .int .i64 (i : Int))]) (fun i w' => i ≤ n ∧ SH w [b] w' [⟨b, .cells (Bs (pAt cur o (leB i x))).toArray T (0, 0), true⟩]) (fun i => n - i) 0 ?_ (fC (by first | rfl | exact congrArg (Value.int _) (by first | omega | assumption | (symm; assumption) | (simp; done) | (simp; omega)) | exact congrArg (fun n => Value.slice _ n _) (by first | omega | (simp; done) | (simp; omega))) (fC (by first | rfl | exact congrArg (Value.int _) (by first | omega | assumption | (symm; assumption) | (simp; done) | (simp; omega)) | exact congrArg (fun n => Value.slice _ n _) (by first | omega | (simp; done) | (simp; omega))) (fN _))) ?_   -- loop 1
  · exact ⟨by omega, by rw [show leB 0 x = [] from rfl, pAt_nil]; exact H⟩
  · rintro i ρx w1 ⟨hi, H⟩
    have hX : (pAt cur o (leB i x)).length = cur.length := pAt_len (by rw [leB_len]; omega)
    have hp0 : (0 : Int) < 256 ^ i := Int.pow_pos (by decide)
    have hq : x / 256 ^ i / 256 = x / 256 ^ (i + 1) := (Int.ediv_ediv .. |>.trans (by rw [if_neg (fun h => absurd h.1 (by omega)), Int.sub_zero, Int.pow_succ]))
    refine sq ?_
    refine rg ?_
    refine lss rfl rfl rfl ?_
    refine nl ?_
    refine then_n ?_
    refine sq ?_
    first | refine cd rfl (fun hc1 => ?_) (fun hc1 => ?_) | refine cn rfl (fun hc1 => ?_) (fun hc1 => ?_)   -- test 1
    · refine sk ?_
      refine then_n ?_
      refine sq ?_
      refine bk ?_
      refine sq ?_
      refine rg ?_
      refine mv (v := .int .i64 _) rfl rfl ?_
      refine asg (v := .int .i64 _) rfl rfl ?_
      refine nl ?_
      refine then_n ?_
      refine sq ?_
      refine rg ?_
      refine mv (v := .slice _ _ _) rfl rfl ?_
      refine mv (v := .int .i64 _) rfl rfl ?_
      refine mv (v := .int .u64 _) rfl rfl ?_
      refine cvi rfl rfl Tryd.underlying5 (by first | exact w_u8 (by omega) | exact w_u8 (rng_u8 _) | exact m_u8 _) rfl ?_
      first | refine ia rfl rfl Tryd.underlying30 sz5_1 (by omega) rfl ?_ | refine iA rfl rfl Tryd.underlying30 sz5_1 (by omega) rfl ?_
      first | refine stb H rfl rfl sc5 (by omega) (by first | decide | (simp only [List.length_set, List.length_cons, List.length_nil, List.length_replicate, List.length_append, Bs_length]; omega) | omega) (by omega) ?_ | refine st (v := .int .u8 _) H rfl rfl sc5 rfl (by first | decide | (simp only [List.length_set, List.length_cons, List.length_nil, List.length_replicate, List.length_append, Bs_length]; omega) | omega) (by omega) ?_
      clear H; intro w2 H _
      refine nl ?_
      refine then_n ?_
      refine rg ?_
      refine mv (v := .int .u64 _) rfl rfl ?_
      refine shrK (s := 8) (p := 256) rfl rfl (by decide) (by decide) rfl rfl ?_
      refine asg (v := .int .u64 _) rfl rfl ?_
      refine nl ?_
      refine in_n ?_
      refine then_n ?_
      refine rg ?_
      refine add rfl rfl (by first | exact w_i64 (by omega) | exact w_i64 (rng_i64 _) | rfl) rfl ?_
      refine mv (v := .int .i64 _) rfl rfl ?_
      refine nl ?_
      refine loop_n ?_
      exact ⟨i + 1, (by (try dsimp only); omega), ⟨by omega, sh_bytes H (by rw [leB_snoc, ← pAt_set (by rw [leB_len]; omega)]; exact set_eq (by rw [leB_len]; omega) rfl)⟩, (fC (by first | rfl | exact congrArg (Value.int _) (by first | omega | assumption | (symm; assumption) | (simp; done) | (simp; omega)) | exact congrArg (fun n => Value.slice _ n _) (by first | omega | (simp; done) | (simp; omega))) (fC (by first | rfl | exact congrArg (Value.int _) (by first | omega | assumption | (symm; assumption) | (simp; done) | (simp; omega)) | exact congrArg (fun n => Value.slice _ n _) (by first | omega | (simp; done) | (simp; omega))) (fN _))), (by repeat (first | exact Agree.setL rfl Agree.mask | exact Agree.self _ _ | refine Agree.upd rfl ?_ | refine Agree.setL rfl ?_ | refine Agree.mask2 rfl ?_))⟩
    · refine ex ?_
      refine then_e ?_
      refine loop_e ?_
      refine in_hit rfl ?_
      refine fin_n ?_
      obtain rfl : i = n := by omega
      exact ⟨rfl, pAt_len (by rw [leB_len]; omega), H.fr, H.look⟩

set_option maxRecDepth 100000 in
set_option maxHeartbeats 1000000 in
theorem c_mbrEncode (w : World) (b n c : Nat) (T : TypeId) (ds : List UInt8) (ps : List MP) (hb : w.heap[b]? = some (.cells (Bs ds).toArray T (0, 0))) (hd : 512 ≤ ds.length) (hn : 512 ≤ n) (hc : n ≤ c) (h4 : ps.length = 4) (hok : ∀ p ∈ ps, p.ok) : Calls Tryd.prog 27 #[.slice (some ⟨b, 0, none⟩) n c, .agg (ps.flatMap MP.cells).toArray] w (Ret fun v w' => v = .tuple #[] ∧ (mbrB ds ps).length = ds.length ∧ Fr [b] w w' ∧ w'.heap[b]? = some (.cells (Bs (mbrB ds ps)).toArray T (0, 0))) := by
  refine enter (fun _ => .tuple #[]) Tryd.func27 rfl rfl rfl (res0 rfl) ?_
  have H := SH.rw1 hb
  have hcl : (ps.flatMap MP.cells).length = 44 := by rw [flat_len MP.cells_len, h4]
  refine sq ?_
  refine rg ?_
  refine bx (v := .agg _) H rfl rfl rfl ?_
  clear H; intro b1 w1 hb1 H _
  refine nl ?_
  refine then_n ?_
  refine sq ?_
  refine sq ?_
  refine rg ?_
  refine la H rfl ag60_44 hcl (by rw [List.drop_zero, List.take_of_length_le (by omega)]) rfl ?_
  refine mv (v := .int .i64 _) rfl rfl ?_
  refine nl ?_
  refine then_n ?_
  refine bk ?_
  replace H := H.drop
  refine lpM (α := Nat) [4, 5, 6, 8, 9, 10, 11, 12, 13, 14, 15, 16, 17, 18, 19, 20, 21, 22, 23, 24, 25, 26, 27, 28, 29, 30, 31, 32, 33, 34, 35, 36, 37, 38, 39, 40, 41, 42, 43, 44, 45, 46, 47, 48, 49, 50, 51, 52, 53, 54, 55, 56, 57, 58, 59, 60, 61, 62, 63, 64, 65, 66, 67, 68, 69, 70, 71, 72] (fun i => [(8, .int .i64 (i : Int))]) (fun i w' => i ≤ 4 ∧ SH w [b] w' [⟨b, .cells (Bs (pAt ds 446 ((ps.take i).flatMap MP.bytes))).toArray T (0, 0), true⟩]) (fun i => 4 - i) 0 ?_ (fC (by first | rfl | exact congrArg (Value.int _) (by first | omega | assumption | (symm; assumption) | (simp; done) | (simp; omega)) | exact congrArg (fun n => Value.slice _ n _) (by first | omega | (simp; done) | (simp; omega))) (fN _)) ?_   -- loop 1
  · exact ⟨by omega, by simpa [pAt_nil] using H⟩
  · rintro i ρx w2 ⟨hi, H⟩
    have hk4 : (ps.take i).length ≤ 4 := by simp; omega
    have hX : (pAt ds 446 ((ps.take i).flatMap MP.bytes)).length = ds.length := pAt_len (by rw [flat_len MP.bytes_len]; omega)
    refine sq ?_
    refine rg ?_
    refine lss rfl rfl rfl ?_
    refine nl ?_
    refine then_n ?_
    refine sq ?_
    first | refine cd rfl (fun hc1 => ?_) (fun hc1 => ?_) | refine cn rfl (fun hc1 => ?_) (fun hc1 => ?_)   -- test 1
    · obtain ⟨p, hp⟩ : ∃ p, ps[i]? = some p := ⟨_, List.getElem?_eq_getElem (by omega)⟩
      have hpo := hok p (List.mem_of_getElem? hp)
      have := hpo.c0; have := hpo.c1; have := hpo.c2; have := hpo.c3; have := hpo.c4; have := hpo.c5; have := hpo.ty; have := hpo.st; have := hpo.sz
      refine sk ?_
      refine then_n ?_
      refine sq ?_
      refine bk ?_
      refine sq ?_
      refine rg ?_
      refine mv (v := .int .i64 _) rfl rfl ?_
      refine ixW rfl rfl Tryd.underlying60 ag59_11 (by omega) (mp_ix hp) rfl ?_
      refine al H ze59 rfl ?_
      clear H; intro b2 w3 hb2 H _
      refine asg (v := .int .i64 _) rfl rfl ?_
      refine sa H rfl rfl ag59_11 rfl rfl (by decide) (by omega) rfl ?_
      clear H; intro w4 H _
      refine nl ?_
      refine then_n ?_
      refine sq ?_
      refine rg ?_
      refine mv (v := .slice _ _ _) rfl rfl ?_
      refine mv (v := .int .i64 _) rfl rfl ?_
      refine mul rfl rfl (by first | exact w_i64 (by omega) | exact w_i64 (rng_i64 _) | rfl) rfl ?_
      refine add rfl rfl (by first | exact w_i64 (by omega) | exact w_i64 (rng_i64 _) | rfl) rfl ?_
      refine mv (v := .int .i64 _) rfl rfl ?_
      refine mul rfl rfl (by first | exact w_i64 (by omega) | exact w_i64 (rng_i64 _) | rfl) rfl ?_
      refine add rfl rfl (by first | exact w_i64 (by omega) | exact w_i64 (rng_i64 _) | rfl) rfl ?_
      refine sllh rfl rfl rfl Tryd.underlying30 sz5_1 (by first | trivial | omega | (simp; omega)) rfl ?_
      refine asg (v := .slice _ _ _) rfl rfl ?_
      refine nl ?_
      refine then_n ?_
      refine sq ?_
      refine rg ?_
      refine mv (v := .slice _ _ _) rfl rfl ?_
      first | refine ia rfl rfl Tryd.underlying30 sz5_1 (by omega) rfl ?_ | refine iA rfl rfl Tryd.underlying30 sz5_1 (by omega) rfl ?_
      first | refine stb H rfl rfl sc5 (by omega) (by first | decide | (simp only [List.length_set, List.length_cons, List.length_nil, List.length_replicate, List.length_append, Bs_length]; omega) | omega) (by omega) ?_ | refine st (v := .int .u8 _) H rfl rfl sc5 rfl (by first | decide | (simp only [List.length_set, List.length_cons, List.length_nil, List.length_replicate, List.length_append, Bs_length]; omega) | omega) (by omega) ?_
      clear H; intro w5 H _
      refine nl ?_
      refine then_n ?_
      refine sq ?_
      refine sq ?_
      refine rg ?_
      refine fa rfl fo59_1 rfl ?_
      first | refine ld H rfl sc4 rfl rfl ?_ | refine lc rfl (by first | assumption | exact H.fr.cell (by assumption) (by simp)) sc4 rfl ?_ | refine ld H rfl sc4 (by assumption) rfl ?_
      refine nl ?_
      refine then_n ?_
      first | refine cd rfl (fun hc2 => ?_) (fun hc2 => ?_) | refine cn rfl (fun hc2 => ?_) (fun hc2 => ?_)   -- test 2
      · refine rg ?_
        refine mv (v := .slice _ _ _) rfl rfl ?_
        first | refine ia rfl rfl Tryd.underlying30 sz5_1 (by omega) rfl ?_ | refine iA rfl rfl Tryd.underlying30 sz5_1 (by omega) rfl ?_
        first | refine stb H rfl rfl sc5 (by omega) (by first | decide | (simp only [List.length_set, List.length_cons, List.length_nil, List.length_replicate, List.length_append, Bs_length]; omega) | omega) (by omega) ?_ | refine st (v := .int .u8 _) H rfl rfl sc5 rfl (by first | decide | (simp only [List.length_set, List.length_cons, List.length_nil, List.length_replicate, List.length_append, Bs_length]; omega) | omega) (by omega) ?_
        clear H; intro w6 H _
        refine nl ?_
        refine then_n ?_
        refine sq ?_
        refine dr (by kernel_rfl) ?_   -- region 8
        have H := H.drew
        refine hold (fun w' => SH w [b] w' [⟨b2, .cells p.cells.toArray 59 (0, 0), true⟩]) [] ?_
        refine tk (i := 0) rfl (by kernel_rfl) rfl (H.sub (by repeat (first | exact List.Sublist.refl _ | exact List.nil_sublist _ | apply List.Sublist.cons_cons | apply List.Sublist.cons))) (fun w' H => r_mv (v := .slice _ _ _) rfl) ?_
        refine tk (i := 1) rfl (by kernel_rfl) rfl (H.sub (by repeat (first | exact List.Sublist.refl _ | exact List.nil_sublist _ | apply List.Sublist.cons_cons | apply List.Sublist.cons))) (fun w' H => r_mv (v := .slice _ _ _) rfl) ?_
        refine tk (i := 2) rfl (by kernel_rfl) rfl (H.sub (by repeat (first | exact List.Sublist.refl _ | exact List.nil_sublist _ | apply List.Sublist.cons_cons | apply List.Sublist.cons))) (fun w' H => r_mv (v := .slice _ _ _) rfl) ?_
        refine tk (i := 3) rfl (by kernel_rfl) rfl (H.sub (by repeat (first | exact List.Sublist.refl _ | exact List.nil_sublist _ | apply List.Sublist.cons_cons | apply List.Sublist.cons))) (fun w' H => r_mv (v := .slice _ _ _) rfl) ?_
        refine tk (i := 4) rfl (by kernel_rfl) rfl (H.sub (by repeat (first | exact List.Sublist.refl _ | exact List.nil_sublist _ | apply List.Sublist.cons_cons | apply List.Sublist.cons))) (fun w' H => r_fa rfl fo59_5) ?_
        first | refine tk (i := 5) rfl (by kernel_rfl) rfl (H.sub (by repeat (first | exact List.Sublist.refl _ | exact List.nil_sublist _ | apply List.Sublist.cons_cons | apply List.Sublist.cons))) (fun w' H => r_iy rfl rfl Tryd.underlying57 sz5_1 (by omega)) ?_ | refine tk (i := 5) rfl (by kernel_rfl) rfl (H.sub (by repeat (first | exact List.Sublist.refl _ | exact List.nil_sublist _ | apply List.Sublist.cons_cons | apply List.Sublist.cons))) (fun w' H => r_iyB rfl rfl Tryd.underlying57 sz5_1 (by omega)) ?_
        first | refine tk (i := 6) rfl (by kernel_rfl) rfl (H.sub (by repeat (first | exact List.Sublist.refl _ | exact List.nil_sublist _ | apply List.Sublist.cons_cons | apply List.Sublist.cons))) (fun w' H => r_ldb H rfl sc5 (by omega)) ?_ | refine tk (i := 6) rfl (by kernel_rfl) rfl (H.sub (by repeat (first | exact List.Sublist.refl _ | exact List.nil_sublist _ | apply List.Sublist.cons_cons | apply List.Sublist.cons))) (fun w' H => r_ld H rfl sc5 rfl) ?_ | refine tk (i := 6) rfl (by kernel_rfl) rfl (H.sub (by repeat (first | exact List.Sublist.refl _ | exact List.nil_sublist _ | apply List.Sublist.cons_cons | apply List.Sublist.cons))) (fun w' H => r_lc rfl (by first | assumption | exact H.fr.cell (by assumption) (by simp)) sc5) ?_
        refine tk (i := 7) rfl (by kernel_rfl) rfl (H.sub (by repeat (first | exact List.Sublist.refl _ | exact List.nil_sublist _ | apply List.Sublist.cons_cons | apply List.Sublist.cons))) (fun w' H => r_fa rfl fo59_5) ?_
        first | refine tk (i := 8) rfl (by kernel_rfl) rfl (H.sub (by repeat (first | exact List.Sublist.refl _ | exact List.nil_sublist _ | apply List.Sublist.cons_cons | apply List.Sublist.cons))) (fun w' H => r_iy rfl rfl Tryd.underlying57 sz5_1 (by omega)) ?_ | refine tk (i := 8) rfl (by kernel_rfl) rfl (H.sub (by repeat (first | exact List.Sublist.refl _ | exact List.nil_sublist _ | apply List.Sublist.cons_cons | apply List.Sublist.cons))) (fun w' H => r_iyB rfl rfl Tryd.underlying57 sz5_1 (by omega)) ?_
        first | refine tk (i := 9) rfl (by kernel_rfl) rfl (H.sub (by repeat (first | exact List.Sublist.refl _ | exact List.nil_sublist _ | apply List.Sublist.cons_cons | apply List.Sublist.cons))) (fun w' H => r_ldb H rfl sc5 (by omega)) ?_ | refine tk (i := 9) rfl (by kernel_rfl) rfl (H.sub (by repeat (first | exact List.Sublist.refl _ | exact List.nil_sublist _ | apply List.Sublist.cons_cons | apply List.Sublist.cons))) (fun w' H => r_ld H rfl sc5 rfl) ?_ | refine tk (i := 9) rfl (by kernel_rfl) rfl (H.sub (by repeat (first | exact List.Sublist.refl _ | exact List.nil_sublist _ | apply List.Sublist.cons_cons | apply List.Sublist.cons))) (fun w' H => r_lc rfl (by first | assumption | exact H.fr.cell (by assumption) (by simp)) sc5) ?_
        refine tk (i := 10) rfl (by kernel_rfl) rfl (H.sub (by repeat (first | exact List.Sublist.refl _ | exact List.nil_sublist _ | apply List.Sublist.cons_cons | apply List.Sublist.cons))) (fun w' H => r_fa rfl fo59_5) ?_
        first | refine tk (i := 11) rfl (by kernel_rfl) rfl (H.sub (by repeat (first | exact List.Sublist.refl _ | exact List.nil_sublist _ | apply List.Sublist.cons_cons | apply List.Sublist.cons))) (fun w' H => r_iy rfl rfl Tryd.underlying57 sz5_1 (by omega)) ?_ | refine tk (i := 11) rfl (by kernel_rfl) rfl (H.sub (by repeat (first | exact List.Sublist.refl _ | exact List.nil_sublist _ | apply List.Sublist.cons_cons | apply List.Sublist.cons))) (fun w' H => r_iyB rfl rfl Tryd.underlying57 sz5_1 (by omega)) ?_
        first | refine tk (i := 12) rfl (by kernel_rfl) rfl (H.sub (by repeat (first | exact List.Sublist.refl _ | exact List.nil_sublist _ | apply List.Sublist.cons_cons | apply List.Sublist.cons))) (fun w' H => r_ldb H rfl sc5 (by omega)) ?_ | refine tk (i := 12) rfl (by kernel_rfl) rfl (H.sub (by repeat (first | exact List.Sublist.refl _ | exact List.nil_sublist _ | apply List.Sublist.cons_cons | apply List.Sublist.cons))) (fun w' H => r_ld H rfl sc5 rfl) ?_ | refine tk (i := 12) rfl (by kernel_rfl) rfl (H.sub (by repeat (first | exact List.Sublist.refl _ | exact List.nil_sublist _ | apply List.Sublist.cons_cons | apply List.Sublist.cons))) (fun w' H => r_lc rfl (by first | assumption | exact H.fr.cell (by assumption) (by simp)) sc5) ?_
        refine tk (i := 13) rfl (by kernel_rfl) rfl (H.sub (by repeat (first | exact List.Sublist.refl _ | exact List.nil_sublist _ | apply List.Sublist.cons_cons | apply List.Sublist.cons))) (fun w' H => r_fa rfl fo59_2) ?_
        first | refine tk (i := 14) rfl (by kernel_rfl) rfl (H.sub (by repeat (first | exact List.Sublist.refl _ | exact List.nil_sublist _ | apply List.Sublist.cons_cons | apply List.Sublist.cons))) (fun w' H => r_ldb H rfl sc5 (by omega)) ?_ | refine tk (i := 14) rfl (by kernel_rfl) rfl (H.sub (by repeat (first | exact List.Sublist.refl _ | exact List.nil_sublist _ | apply List.Sublist.cons_cons | apply List.Sublist.cons))) (fun w' H => r_ld H rfl sc5 rfl) ?_ | refine tk (i := 14) rfl (by kernel_rfl) rfl (H.sub (by repeat (first | exact List.Sublist.refl _ | exact List.nil_sublist _ | apply List.Sublist.cons_cons | apply List.Sublist.cons))) (fun w' H => r_lc rfl (by first | assumption | exact H.fr.cell (by assumption) (by simp)) sc5) ?_
        first | refine tk (i := 15) rfl (by kernel_rfl) rfl (H.sub (by repeat (first | exact List.Sublist.refl _ | exact List.nil_sublist _ | apply List.Sublist.cons_cons | apply List.Sublist.cons))) (fun w' H => r_ia rfl rfl Tryd.underlying30 sz5_1 (by omega)) ?_ | refine tk (i := 15) rfl (by kernel_rfl) rfl (H.sub (by repeat (first | exact List.Sublist.refl _ | exact List.nil_sublist _ | apply List.Sublist.cons_cons | apply List.Sublist.cons))) (fun w' H => r_iA rfl rfl Tryd.underlying30 sz5_1 (by omega)) ?_
        refine fk (i := 16) (by kernel_rfl) rfl rfl rfl ?_
        first | refine stb H rfl rfl sc5 (by omega) (by first | decide | (simp only [List.length_set, List.length_cons, List.length_nil, List.length_replicate, List.length_append, Bs_length]; omega) | omega) (by omega) ?_ | refine st (v := .int .u8 _) H rfl rfl sc5 rfl (by first | decide | (simp only [List.length_set, List.length_cons, List.length_nil, List.length_replicate, List.length_append, Bs_length]; omega) | omega) (by omega) ?_
        clear H; intro w7 H _
        refine nl ?_
        refine then_n ?_
        refine ⟨H.sub (by repeat (first | exact List.Sublist.refl _ | exact List.nil_sublist _ | apply List.Sublist.cons_cons | apply List.Sublist.cons)), ?_⟩
        first | refine tk (i := 17) rfl (by kernel_rfl) rfl (H.sub (by repeat (first | exact List.Sublist.refl _ | exact List.nil_sublist _ | apply List.Sublist.cons_cons | apply List.Sublist.cons))) (fun w' H => r_ia rfl rfl Tryd.underlying30 sz5_1 (by omega)) ?_ | refine tk (i := 17) rfl (by kernel_rfl) rfl (H.sub (by repeat (first | exact List.Sublist.refl _ | exact List.nil_sublist _ | apply List.Sublist.cons_cons | apply List.Sublist.cons))) (fun w' H => r_iA rfl rfl Tryd.underlying30 sz5_1 (by omega)) ?_
        refine fk (i := 18) (by kernel_rfl) rfl rfl rfl ?_
        first | refine stb H rfl rfl sc5 (by omega) (by first | decide | (simp only [List.length_set, List.length_cons, List.length_nil, List.length_replicate, List.length_append, Bs_length]; omega) | omega) (by omega) ?_ | refine st (v := .int .u8 _) H rfl rfl sc5 rfl (by first | decide | (simp only [List.length_set, List.length_cons, List.length_nil, List.length_replicate, List.length_append, Bs_length]; omega) | omega) (by omega) ?_
        clear H; intro w8 H _
        refine nl ?_
        refine then_n ?_
        refine ⟨H.sub (by repeat (first | exact List.Sublist.refl _ | exact List.nil_sublist _ | apply List.Sublist.cons_cons | apply List.Sublist.cons)), ?_⟩
        first | refine tk (i := 19) rfl (by kernel_rfl) rfl (H.sub (by repeat (first | exact List.Sublist.refl _ | exact List.nil_sublist _ | apply List.Sublist.cons_cons | apply List.Sublist.cons))) (fun w' H => r_ia rfl rfl Tryd.underlying30 sz5_1 (by omega)) ?_ | refine tk (i := 19) rfl (by kernel_rfl) rfl (H.sub (by repeat (first | exact List.Sublist.refl _ | exact List.nil_sublist _ | apply List.Sublist.cons_cons | apply List.Sublist.cons))) (fun w' H => r_iA rfl rfl Tryd.underlying30 sz5_1 (by omega)) ?_
        refine fk (i := 20) (by kernel_rfl) rfl rfl rfl ?_
        first | refine stb H rfl rfl sc5 (by omega) (by first | decide | (simp only [List.length_set, List.length_cons, List.length_nil, List.length_replicate, List.length_append, Bs_length]; omega) | omega) (by omega) ?_ | refine st (v := .int .u8 _) H rfl rfl sc5 rfl (by first | decide | (simp only [List.length_set, List.length_cons, List.length_nil, List.length_replicate, List.length_append, Bs_length]; omega) | omega) (by omega) ?_
        clear H; intro w9 H _
        refine nl ?_
        refine then_n ?_
        refine ⟨H.sub (by repeat (first | exact List.Sublist.refl _ | exact List.nil_sublist _ | apply List.Sublist.cons_cons | apply List.Sublist.cons)), ?_⟩
        first | refine tk (i := 21) rfl (by kernel_rfl) rfl (H.sub (by repeat (first | exact List.Sublist.refl _ | exact List.nil_sublist _ | apply List.Sublist.cons_cons | apply List.Sublist.cons))) (fun w' H => r_ia rfl rfl Tryd.underlying30 sz5_1 (by omega)) ?_ | refine tk (i := 21) rfl (by kernel_rfl) rfl (H.sub (by repeat (first | exact List.Sublist.refl _ | exact List.nil_sublist _ | apply List.Sublist.cons_cons | apply List.Sublist.cons))) (fun w' H => r_iA rfl rfl Tryd.underlying30 sz5_1 (by omega)) ?_
        refine fk (i := 22) (by kernel_rfl) rfl rfl rfl ?_
        first | refine stb H rfl rfl sc5 (by omega) (by first | decide | (simp only [List.length_set, List.length_cons, List.length_nil, List.length_replicate, List.length_append, Bs_length]; omega) | omega) (by omega) ?_ | refine st (v := .int .u8 _) H rfl rfl sc5 rfl (by first | decide | (simp only [List.length_set, List.length_cons, List.length_nil, List.length_replicate, List.length_append, Bs_length]; omega) | omega) (by omega) ?_
        clear H; intro w10 H _
        refine nl ?_
        refine then_n ?_
        refine ⟨H.sub (by repeat (first | exact List.Sublist.refl _ | exact List.nil_sublist _ | apply List.Sublist.cons_cons | apply List.Sublist.cons)), ?_⟩
        refine da (by kernel_rfl) ?_
        refine then_n ?_
        refine sq ?_
        refine dr (by kernel_rfl) ?_   -- region 9
        have H := H.drew
        refine hold (fun w' => SH w [b] w' [⟨b2, .cells p.cells.toArray 59 (0, 0), true⟩]) [] ?_
        refine tk (i := 0) rfl (by kernel_rfl) rfl (H.sub (by repeat (first | exact List.Sublist.refl _ | exact List.nil_sublist _ | apply List.Sublist.cons_cons | apply List.Sublist.cons))) (fun w' H => r_mv (v := .slice _ _ _) rfl) ?_
        refine tk (i := 1) rfl (by kernel_rfl) rfl (H.sub (by repeat (first | exact List.Sublist.refl _ | exact List.nil_sublist _ | apply List.Sublist.cons_cons | apply List.Sublist.cons))) (fun w' H => r_mv (v := .slice _ _ _) rfl) ?_
        refine tk (i := 2) rfl (by kernel_rfl) rfl (H.sub (by repeat (first | exact List.Sublist.refl _ | exact List.nil_sublist _ | apply List.Sublist.cons_cons | apply List.Sublist.cons))) (fun w' H => r_mv (v := .slice _ _ _) rfl) ?_
        refine tk (i := 3) rfl (by kernel_rfl) rfl (H.sub (by repeat (first | exact List.Sublist.refl _ | exact List.nil_sublist _ | apply List.Sublist.cons_cons | apply List.Sublist.cons))) (fun w' H => r_fa rfl fo59_5) ?_
        first | refine tk (i := 4) rfl (by kernel_rfl) rfl (H.sub (by repeat (first | exact List.Sublist.refl _ | exact List.nil_sublist _ | apply List.Sublist.cons_cons | apply List.Sublist.cons))) (fun w' H => r_iy rfl rfl Tryd.underlying57 sz5_1 (by omega)) ?_ | refine tk (i := 4) rfl (by kernel_rfl) rfl (H.sub (by repeat (first | exact List.Sublist.refl _ | exact List.nil_sublist _ | apply List.Sublist.cons_cons | apply List.Sublist.cons))) (fun w' H => r_iyB rfl rfl Tryd.underlying57 sz5_1 (by omega)) ?_
        first | refine tk (i := 5) rfl (by kernel_rfl) rfl (H.sub (by repeat (first | exact List.Sublist.refl _ | exact List.nil_sublist _ | apply List.Sublist.cons_cons | apply List.Sublist.cons))) (fun w' H => r_ldb H rfl sc5 (by omega)) ?_ | refine tk (i := 5) rfl (by kernel_rfl) rfl (H.sub (by repeat (first | exact List.Sublist.refl _ | exact List.nil_sublist _ | apply List.Sublist.cons_cons | apply List.Sublist.cons))) (fun w' H => r_ld H rfl sc5 rfl) ?_ | refine tk (i := 5) rfl (by kernel_rfl) rfl (H.sub (by repeat (first | exact List.Sublist.refl _ | exact List.nil_sublist _ | apply List.Sublist.cons_cons | apply List.Sublist.cons))) (fun w' H => r_lc rfl (by first | assumption | exact H.fr.cell (by assumption) (by simp)) sc5) ?_
        refine tk (i := 6) rfl (by kernel_rfl) rfl (H.sub (by repeat (first | exact List.Sublist.refl _ | exact List.nil_sublist _ | apply List.Sublist.cons_cons | apply List.Sublist.cons))) (fun w' H => r_fa rfl fo59_5) ?_
        first | refine tk (i := 7) rfl (by kernel_rfl) rfl (H.sub (by repeat (first | exact List.Sublist.refl _ | exact List.nil_sublist _ | apply List.Sublist.cons_cons | apply List.Sublist.cons))) (fun w' H => r_iy rfl rfl Tryd.underlying57 sz5_1 (by omega)) ?_ | refine tk (i := 7) rfl (by kernel_rfl) rfl (H.sub (by repeat (first | exact List.Sublist.refl _ | exact List.nil_sublist _ | apply List.Sublist.cons_cons | apply List.Sublist.cons))) (fun w' H => r_iyB rfl rfl Tryd.underlying57 sz5_1 (by omega)) ?_
        first | refine tk (i := 8) rfl (by kernel_rfl) rfl (H.sub (by repeat (first | exact List.Sublist.refl _ | exact List.nil_sublist _ | apply List.Sublist.cons_cons | apply List.Sublist.cons))) (fun w' H => r_ldb H rfl sc5 (by omega)) ?_ | refine tk (i := 8) rfl (by kernel_rfl) rfl (H.sub (by repeat (first | exact List.Sublist.refl _ | exact List.nil_sublist _ | apply List.Sublist.cons_cons | apply List.Sublist.cons))) (fun w' H => r_ld H rfl sc5 rfl) ?_ | refine tk (i := 8) rfl (by kernel_rfl) rfl (H.sub (by repeat (first | exact List.Sublist.refl _ | exact List.nil_sublist _ | apply List.Sublist.cons_cons | apply List.Sublist.cons))) (fun w' H => r_lc rfl (by first | assumption | exact H.fr.cell (by assumption) (by simp)) sc5) ?_
        refine tk (i := 9) rfl (by kernel_rfl) rfl (H.sub (by repeat (first | exact List.Sublist.refl _ | exact List.nil_sublist _ | apply List.Sublist.cons_cons | apply List.Sublist.cons))) (fun w' H => r_fa rfl fo59_5) ?_
        first | refine tk (i := 10) rfl (by kernel_rfl) rfl (H.sub (by repeat (first | exact List.Sublist.refl _ | exact List.nil_sublist _ | apply List.Sublist.cons_cons | apply List.Sublist.cons))) (fun w' H => r_iy rfl rfl Tryd.underlying57 sz5_1 (by omega)) ?_ | refine tk (i := 10) rfl (by kernel_rfl) rfl (H.sub (by repeat (first | exact List.Sublist.refl _ | exact List.nil_sublist _ | apply List.Sublist.cons_cons | apply List.Sublist.cons))) (fun w' H => r_iyB rfl rfl Tryd.underlying57 sz5_1 (by omega)) ?_
        first | refine tk (i := 11) rfl (by kernel_rfl) rfl (H.sub (by repeat (first | exact List.Sublist.refl _ | exact List.nil_sublist _ | apply List.Sublist.cons_cons | apply List.Sublist.cons))) (fun w' H => r_ldb H rfl sc5 (by omega)) ?_ | refine tk (i := 11) rfl (by kernel_rfl) rfl (H.sub (by repeat (first | exact List.Sublist.refl _ | exact List.nil_sublist _ | apply List.Sublist.cons_cons | apply List.Sublist.cons))) (fun w' H => r_ld H rfl sc5 rfl) ?_ | refine tk (i := 11) rfl (by kernel_rfl) rfl (H.sub (by repeat (first | exact List.Sublist.refl _ | exact List.nil_sublist _ | apply List.Sublist.cons_cons | apply List.Sublist.cons))) (fun w' H => r_lc rfl (by first | assumption | exact H.fr.cell (by assumption) (by simp)) sc5) ?_
        first | refine tk (i := 12) rfl (by kernel_rfl) rfl (H.sub (by repeat (first | exact List.Sublist.refl _ | exact List.nil_sublist _ | apply List.Sublist.cons_cons | apply List.Sublist.cons))) (fun w' H => r_ia rfl rfl Tryd.underlying30 sz5_1 (by omega)) ?_ | refine tk (i := 12) rfl (by kernel_rfl) rfl (H.sub (by repeat (first | exact List.Sublist.refl _ | exact List.nil_sublist _ | apply List.Sublist.cons_cons | apply List.Sublist.cons))) (fun w' H => r_iA rfl rfl Tryd.underlying30 sz5_1 (by omega)) ?_
        refine fk (i := 13) (by kernel_rfl) rfl rfl rfl ?_
        first | refine stb H rfl rfl sc5 (by omega) (by first | decide | (simp only [List.length_set, List.length_cons, List.length_nil, List.length_replicate, List.length_append, Bs_length]; omega) | omega) (by omega) ?_ | refine st (v := .int .u8 _) H rfl rfl sc5 rfl (by first | decide | (simp only [List.length_set, List.length_cons, List.length_nil, List.length_replicate, List.length_append, Bs_length]; omega) | omega) (by omega) ?_
        clear H; intro w11 H _
        refine nl ?_
        refine then_n ?_
        refine ⟨H.sub (by repeat (first | exact List.Sublist.refl _ | exact List.nil_sublist _ | apply List.Sublist.cons_cons | apply List.Sublist.cons)), ?_⟩
        first | refine tk (i := 14) rfl (by kernel_rfl) rfl (H.sub (by repeat (first | exact List.Sublist.refl _ | exact List.nil_sublist _ | apply List.Sublist.cons_cons | apply List.Sublist.cons))) (fun w' H => r_ia rfl rfl Tryd.underlying30 sz5_1 (by omega)) ?_ | refine tk (i := 14) rfl (by kernel_rfl) rfl (H.sub (by repeat (first | exact List.Sublist.refl _ | exact List.nil_sublist _ | apply List.Sublist.cons_cons | apply List.Sublist.cons))) (fun w' H => r_iA rfl rfl Tryd.underlying30 sz5_1 (by omega)) ?_
        refine fk (i := 15) (by kernel_rfl) rfl rfl rfl ?_
        first | refine stb H rfl rfl sc5 (by omega) (by first | decide | (simp only [List.length_set, List.length_cons, List.length_nil, List.length_replicate, List.length_append, Bs_length]; omega) | omega) (by omega) ?_ | refine st (v := .int .u8 _) H rfl rfl sc5 rfl (by first | decide | (simp only [List.length_set, List.length_cons, List.length_nil, List.length_replicate, List.length_append, Bs_length]; omega) | omega) (by omega) ?_
        clear H; intro w12 H _
        refine nl ?_
        refine then_n ?_
        refine ⟨H.sub (by repeat (first | exact List.Sublist.refl _ | exact List.nil_sublist _ | apply List.Sublist.cons_cons | apply List.Sublist.cons)), ?_⟩
        first | refine tk (i := 16) rfl (by kernel_rfl) rfl (H.sub (by repeat (first | exact List.Sublist.refl _ | exact List.nil_sublist _ | apply List.Sublist.cons_cons | apply List.Sublist.cons))) (fun w' H => r_ia rfl rfl Tryd.underlying30 sz5_1 (by omega)) ?_ | refine tk (i := 16) rfl (by kernel_rfl) rfl (H.sub (by repeat (first | exact List.Sublist.refl _ | exact List.nil_sublist _ | apply List.Sublist.cons_cons | apply List.Sublist.cons))) (fun w' H => r_iA rfl rfl Tryd.underlying30 sz5_1 (by omega)) ?_
        refine fk (i := 17) (by kernel_rfl) rfl rfl rfl ?_
        first | refine stb H rfl rfl sc5 (by omega) (by first | decide | (simp only [List.length_set, List.length_cons, List.length_nil, List.length_replicate, List.length_append, Bs_length]; omega) | omega) (by omega) ?_ | refine st (v := .int .u8 _) H rfl rfl sc5 rfl (by first | decide | (simp only [List.length_set, List.length_cons, List.length_nil, List.length_replicate, List.length_append, Bs_length]; omega) | omega) (by omega) ?_
        clear H; intro w13 H _
        refine nl ?_
        refine then_n ?_
        refine ⟨H.sub (by repeat (first | exact List.Sublist.refl _ | exact List.nil_sublist _ | apply List.Sublist.cons_cons | apply List.Sublist.cons)), ?_⟩
        refine da (by kernel_rfl) ?_
        refine then_n ?_
        refine sq ?_
        refine dr (by kernel_rfl) ?_   -- region 10
        have H := H.drew
        refine hold (fun w' => SH w [b] w' [⟨b2, .cells p.cells.toArray 59 (0, 0), true⟩]) [] ?_
        refine tk (i := 0) rfl (by kernel_rfl) rfl (H.sub (by repeat (first | exact List.Sublist.refl _ | exact List.nil_sublist _ | apply List.Sublist.cons_cons | apply List.Sublist.cons))) (fun w' H => r_mv (v := .slice _ _ _) rfl) ?_
        refine tk (i := 1) rfl (by kernel_rfl) rfl (H.sub (by repeat (first | exact List.Sublist.refl _ | exact List.nil_sublist _ | apply List.Sublist.cons_cons | apply List.Sublist.cons))) (fun w' H => r_sllh rfl rfl rfl Tryd.underlying30 sz5_1 (by first | trivial | omega | (simp; omega))) ?_
        refine tk (i := 2) rfl (by kernel_rfl) rfl (H.sub (by repeat (first | exact List.Sublist.refl _ | exact List.nil_sublist _ | apply List.Sublist.cons_cons | apply List.Sublist.cons))) (fun w' H => r_fa rfl fo59_3) ?_
        first | refine tk (i := 3) rfl (by kernel_rfl) rfl (H.sub (by repeat (first | exact List.Sublist.refl _ | exact List.nil_sublist _ | apply List.Sublist.cons_cons | apply List.Sublist.cons))) (fun w' H => r_ld H rfl sc53 rfl) ?_ | refine tk (i := 3) rfl (by kernel_rfl) rfl (H.sub (by repeat (first | exact List.Sublist.refl _ | exact List.nil_sublist _ | apply List.Sublist.cons_cons | apply List.Sublist.cons))) (fun w' H => r_lc rfl (by first | assumption | exact H.fr.cell (by assumption) (by simp)) sc53) ?_ | refine tk (i := 3) rfl (by kernel_rfl) rfl (H.sub (by repeat (first | exact List.Sublist.refl _ | exact List.nil_sublist _ | apply List.Sublist.cons_cons | apply List.Sublist.cons))) (fun w' H => r_ld H rfl sc53 (by assumption)) ?_
        refine tk (i := 4) rfl (by kernel_rfl) rfl (H.sub (by repeat (first | exact List.Sublist.refl _ | exact List.nil_sublist _ | apply List.Sublist.cons_cons | apply List.Sublist.cons))) (fun w' H => r_cvi rfl rfl Tryd.underlying28 (by first | exact w_u64 (by omega) | exact w_u64 (rng_u64 _) | exact m_u64 _)) ?_
        refine fk (i := 5) (by kernel_rfl) rfl rfl rfl ?_
        refine cl ca43 (c_putLe _ _ _ _ _ _ _ _ H.look (by first | omega | ((try simp only [pAt_length, leB_len, gB_len, List.length_set, List.length_replicate]); omega)) (by omega)) rfl ?_
        rintro _ w14 ⟨rfl, hlen, F, hnew⟩
        replace H := H.put F hnew; clear F hnew
        refine nl ?_
        refine then_n ?_
        refine ⟨H.sub (by repeat (first | exact List.Sublist.refl _ | exact List.nil_sublist _ | apply List.Sublist.cons_cons | apply List.Sublist.cons)), ?_⟩
        refine da (by kernel_rfl) ?_
        refine then_n ?_
        refine dr (by kernel_rfl) ?_   -- region 11
        have H := H.drew
        refine hold (fun w' => SH w [b] w' [⟨b2, .cells p.cells.toArray 59 (0, 0), true⟩]) [] ?_
        refine tk (i := 0) rfl (by kernel_rfl) rfl (H.sub (by repeat (first | exact List.Sublist.refl _ | exact List.nil_sublist _ | apply List.Sublist.cons_cons | apply List.Sublist.cons))) (fun w' H => r_mv (v := .slice _ _ _) rfl) ?_
        refine tk (i := 1) rfl (by kernel_rfl) rfl (H.sub (by repeat (first | exact List.Sublist.refl _ | exact List.nil_sublist _ | apply List.Sublist.cons_cons | apply List.Sublist.cons))) (fun w' H => r_sllh rfl rfl rfl Tryd.underlying30 sz5_1 (by first | trivial | omega | (simp; omega))) ?_
        refine tk (i := 2) rfl (by kernel_rfl) rfl (H.sub (by repeat (first | exact List.Sublist.refl _ | exact List.nil_sublist _ | apply List.Sublist.cons_cons | apply List.Sublist.cons))) (fun w' H => r_fa rfl fo59_4) ?_
        first | refine tk (i := 3) rfl (by kernel_rfl) rfl (H.sub (by repeat (first | exact List.Sublist.refl _ | exact List.nil_sublist _ | apply List.Sublist.cons_cons | apply List.Sublist.cons))) (fun w' H => r_ld H rfl sc53 rfl) ?_ | refine tk (i := 3) rfl (by kernel_rfl) rfl (H.sub (by repeat (first | exact List.Sublist.refl _ | exact List.nil_sublist _ | apply List.Sublist.cons_cons | apply List.Sublist.cons))) (fun w' H => r_lc rfl (by first | assumption | exact H.fr.cell (by assumption) (by simp)) sc53) ?_ | refine tk (i := 3) rfl (by kernel_rfl) rfl (H.sub (by repeat (first | exact List.Sublist.refl _ | exact List.nil_sublist _ | apply List.Sublist.cons_cons | apply List.Sublist.cons))) (fun w' H => r_ld H rfl sc53 (by assumption)) ?_
        refine tk (i := 4) rfl (by kernel_rfl) rfl (H.sub (by repeat (first | exact List.Sublist.refl _ | exact List.nil_sublist _ | apply List.Sublist.cons_cons | apply List.Sublist.cons))) (fun w' H => r_cvi rfl rfl Tryd.underlying28 (by first | exact w_u64 (by omega) | exact w_u64 (rng_u64 _) | exact m_u64 _)) ?_
        refine fk (i := 5) (by kernel_rfl) rfl rfl rfl ?_
        refine cl ca43 (c_putLe _ _ _ _ _ _ _ _ H.look (by first | omega | ((try simp only [pAt_length, leB_len, gB_len, List.length_set, List.length_replicate]); omega)) (by omega)) rfl ?_
        rintro _ w15 ⟨rfl, hlen, F, hnew⟩
        replace H := H.put F hnew; clear F hnew
        refine nl ?_
        refine then_n ?_
        refine ⟨H.sub (by repeat (first | exact List.Sublist.refl _ | exact List.nil_sublist _ | apply List.Sublist.cons_cons | apply List.Sublist.cons)), ?_⟩
        refine da (by kernel_rfl) ?_
        refine in_n ?_
        refine then_n ?_
        refine rg ?_
        refine add rfl rfl (by first | exact w_i64 (by omega) | exact w_i64 (rng_i64 _) | rfl) rfl ?_
        refine mv (v := .int .i64 _) rfl rfl ?_
        refine nl ?_
        refine loop_n ?_
        exact ⟨i + 1, (by (try dsimp only); omega), ⟨by omega, sh_bytes H.drop ((entry_put (X := pAt ds 446 ((ps.take i).flatMap MP.bytes)) (o := 446 + 16 * i) (by omega) (set_set_eq (by omega) (by omega) (by simp [hc2])) (by omega) (by omega) (by omega) (by omega) (by omega) (by omega) (by omega) (by omega) (by omega) (leB_len 4 _) (leB_len 4 _)).trans (entry_at hp (by omega) hd))⟩, (fC (by first | rfl | exact congrArg (Value.int _) (by first | omega | assumption | (symm; assumption) | (simp; done) | (simp; omega)) | exact congrArg (fun n => Value.slice _ n _) (by first | omega | (simp; done) | (simp; omega))) (fN _)), (by repeat (first | exact Agree.setL rfl Agree.mask | exact Agree.self _ _ | refine Agree.upd rfl ?_ | refine Agree.setL rfl ?_ | refine Agree.mask2 rfl ?_))⟩
      · refine sk ?_
        refine then_n ?_
        refine sq ?_
        refine dr (by kernel_rfl) ?_   -- region 8
        have H := H.drew
        refine hold (fun w' => SH w [b] w' [⟨b2, .cells p.cells.toArray 59 (0, 0), true⟩]) [] ?_
        refine tk (i := 0) rfl (by kernel_rfl) rfl (H.sub (by repeat (first | exact List.Sublist.refl _ | exact List.nil_sublist _ | apply List.Sublist.cons_cons | apply List.Sublist.cons))) (fun w' H => r_mv (v := .slice _ _ _) rfl) ?_
        refine tk (i := 1) rfl (by kernel_rfl) rfl (H.sub (by repeat (first | exact List.Sublist.refl _ | exact List.nil_sublist _ | apply List.Sublist.cons_cons | apply List.Sublist.cons))) (fun w' H => r_mv (v := .slice _ _ _) rfl) ?_
        refine tk (i := 2) rfl (by kernel_rfl) rfl (H.sub (by repeat (first | exact List.Sublist.refl _ | exact List.nil_sublist _ | apply List.Sublist.cons_cons | apply List.Sublist.cons))) (fun w' H => r_mv (v := .slice _ _ _) rfl) ?_
        refine tk (i := 3) rfl (by kernel_rfl) rfl (H.sub (by repeat (first | exact List.Sublist.refl _ | exact List.nil_sublist _ | apply List.Sublist.cons_cons | apply List.Sublist.cons))) (fun w' H => r_mv (v := .slice _ _ _) rfl) ?_
        refine tk (i := 4) rfl (by kernel_rfl) rfl (H.sub (by repeat (first | exact List.Sublist.refl _ | exact List.nil_sublist _ | apply List.Sublist.cons_cons | apply List.Sublist.cons))) (fun w' H => r_fa rfl fo59_5) ?_
        first | refine tk (i := 5) rfl (by kernel_rfl) rfl (H.sub (by repeat (first | exact List.Sublist.refl _ | exact List.nil_sublist _ | apply List.Sublist.cons_cons | apply List.Sublist.cons))) (fun w' H => r_iy rfl rfl Tryd.underlying57 sz5_1 (by omega)) ?_ | refine tk (i := 5) rfl (by kernel_rfl) rfl (H.sub (by repeat (first | exact List.Sublist.refl _ | exact List.nil_sublist _ | apply List.Sublist.cons_cons | apply List.Sublist.cons))) (fun w' H => r_iyB rfl rfl Tryd.underlying57 sz5_1 (by omega)) ?_
        first | refine tk (i := 6) rfl (by kernel_rfl) rfl (H.sub (by repeat (first | exact List.Sublist.refl _ | exact List.nil_sublist _ | apply List.Sublist.cons_cons | apply List.Sublist.cons))) (fun w' H => r_ldb H rfl sc5 (by omega)) ?_ | refine tk (i := 6) rfl (by kernel_rfl) rfl (H.sub (by repeat (first | exact List.Sublist.refl _ | exact List.nil_sublist _ | apply List.Sublist.cons_cons | apply List.Sublist.cons))) (fun w' H => r_ld H rfl sc5 rfl) ?_ | refine tk (i := 6) rfl (by kernel_rfl) rfl (H.sub (by repeat (first | exact List.Sublist.refl _ | exact List.nil_sublist _ | apply List.Sublist.cons_cons | apply List.Sublist.cons))) (fun w' H => r_lc rfl (by first | assumption | exact H.fr.cell (by assumption) (by simp)) sc5) ?_
        refine tk (i := 7) rfl (by kernel_rfl) rfl (H.sub (by repeat (first | exact List.Sublist.refl _ | exact List.nil_sublist _ | apply List.Sublist.cons_cons | apply List.Sublist.cons))) (fun w' H => r_fa rfl fo59_5) ?_
        first | refine tk (i := 8) rfl (by kernel_rfl) rfl (H.sub (by repeat (first | exact List.Sublist.refl _ | exact List.nil_sublist _ | apply List.Sublist.cons_cons | apply List.Sublist.cons))) (fun w' H => r_iy rfl rfl Tryd.underlying57 sz5_1 (by omega)) ?_ | refine tk (i := 8) rfl (by kernel_rfl) rfl (H.sub (by repeat (first | exact List.Sublist.refl _ | exact List.nil_sublist _ | apply List.Sublist.cons_cons | apply List.Sublist.cons))) (fun w' H => r_iyB rfl rfl Tryd.underlying57 sz5_1 (by omega)) ?_
        first | refine tk (i := 9) rfl (by kernel_rfl) rfl (H.sub (by repeat (first | exact List.Sublist.refl _ | exact List.nil_sublist _ | apply List.Sublist.cons_cons | apply List.Sublist.cons))) (fun w' H => r_ldb H rfl sc5 (by omega)) ?_ | refine tk (i := 9) rfl (by kernel_rfl) rfl (H.sub (by repeat (first | exact List.Sublist.refl _ | exact List.nil_sublist _ | apply List.Sublist.cons_cons | apply List.Sublist.cons))) (fun w' H => r_ld H rfl sc5 rfl) ?_ | refine tk (i := 9) rfl (by kernel_rfl) rfl (H.sub (by repeat (first | exact List.Sublist.refl _ | exact List.nil_sublist _ | apply List.Sublist.cons_cons | apply List.Sublist.cons))) (fun w' H => r_lc rfl (by first | assumption | exact H.fr.cell (by assumption) (by simp)) sc5) ?_
        refine tk (i := 10) rfl (by kernel_rfl) rfl (H.sub (by repeat (first | exact List.Sublist.refl _ | exact List.nil_sublist _ | apply List.Sublist.cons_cons | apply List.Sublist.cons))) (fun w' H => r_fa rfl fo59_5) ?_
        first | refine tk (i := 11) rfl (by kernel_rfl) rfl (H.sub (by repeat (first | exact List.Sublist.refl _ | exact List.nil_sublist _ | apply List.Sublist.cons_cons | apply List.Sublist.cons))) (fun w' H => r_iy rfl rfl Tryd.underlying57 sz5_1 (by omega)) ?_ | refine tk (i := 11) rfl (by kernel_rfl) rfl (H.sub (by repeat (first | exact List.Sublist.refl _ | exact List.nil_sublist _ | apply List.Sublist.cons_cons | apply List.Sublist.cons))) (fun w' H => r_iyB rfl rfl Tryd.underlying57 sz5_1 (by omega)) ?_
        first | refine tk (i := 12) rfl (by kernel_rfl) rfl (H.sub (by repeat (first | exact List.Sublist.refl _ | exact List.nil_sublist _ | apply List.Sublist.cons_cons | apply List.Sublist.cons))) (fun w' H => r_ldb H rfl sc5 (by omega)) ?_ | refine tk (i := 12) rfl (by kernel_rfl) rfl (H.sub (by repeat (first | exact List.Sublist.refl _ | exact List.nil_sublist _ | apply List.Sublist.cons_cons | apply List.Sublist.cons))) (fun w' H => r_ld H rfl sc5 rfl) ?_ | refine tk (i := 12) rfl (by kernel_rfl) rfl (H.sub (by repeat (first | exact List.Sublist.refl _ | exact List.nil_sublist _ | apply List.Sublist.cons_cons | apply List.Sublist.cons))) (fun w' H => r_lc rfl (by first | assumption | exact H.fr.cell (by assumption) (by simp)) sc5) ?_
        refine tk (i := 13) rfl (by kernel_rfl) rfl (H.sub (by repeat (first | exact List.Sublist.refl _ | exact List.nil_sublist _ | apply List.Sublist.cons_cons | apply List.Sublist.cons))) (fun w' H => r_fa rfl fo59_2) ?_
        first | refine tk (i := 14) rfl (by kernel_rfl) rfl (H.sub (by repeat (first | exact List.Sublist.refl _ | exact List.nil_sublist _ | apply List.Sublist.cons_cons | apply List.Sublist.cons))) (fun w' H => r_ldb H rfl sc5 (by omega)) ?_ | refine tk (i := 14) rfl (by kernel_rfl) rfl (H.sub (by repeat (first | exact List.Sublist.refl _ | exact List.nil_sublist _ | apply List.Sublist.cons_cons | apply List.Sublist.cons))) (fun w' H => r_ld H rfl sc5 rfl) ?_ | refine tk (i := 14) rfl (by kernel_rfl) rfl (H.sub (by repeat (first | exact List.Sublist.refl _ | exact List.nil_sublist _ | apply List.Sublist.cons_cons | apply List.Sublist.cons))) (fun w' H => r_lc rfl (by first | assumption | exact H.fr.cell (by assumption) (by simp)) sc5) ?_
        first | refine tk (i := 15) rfl (by kernel_rfl) rfl (H.sub (by repeat (first | exact List.Sublist.refl _ | exact List.nil_sublist _ | apply List.Sublist.cons_cons | apply List.Sublist.cons))) (fun w' H => r_ia rfl rfl Tryd.underlying30 sz5_1 (by omega)) ?_ | refine tk (i := 15) rfl (by kernel_rfl) rfl (H.sub (by repeat (first | exact List.Sublist.refl _ | exact List.nil_sublist _ | apply List.Sublist.cons_cons | apply List.Sublist.cons))) (fun w' H => r_iA rfl rfl Tryd.underlying30 sz5_1 (by omega)) ?_
        refine fk (i := 16) (by kernel_rfl) rfl rfl rfl ?_
        first | refine stb H rfl rfl sc5 (by omega) (by first | decide | (simp only [List.length_set, List.length_cons, List.length_nil, List.length_replicate, List.length_append, Bs_length]; omega) | omega) (by omega) ?_ | refine st (v := .int .u8 _) H rfl rfl sc5 rfl (by first | decide | (simp only [List.length_set, List.length_cons, List.length_nil, List.length_replicate, List.length_append, Bs_length]; omega) | omega) (by omega) ?_
        clear H; intro w16 H _
        refine nl ?_
        refine then_n ?_
        refine ⟨H.sub (by repeat (first | exact List.Sublist.refl _ | exact List.nil_sublist _ | apply List.Sublist.cons_cons | apply List.Sublist.cons)), ?_⟩
        first | refine tk (i := 17) rfl (by kernel_rfl) rfl (H.sub (by repeat (first | exact List.Sublist.refl _ | exact List.nil_sublist _ | apply List.Sublist.cons_cons | apply List.Sublist.cons))) (fun w' H => r_ia rfl rfl Tryd.underlying30 sz5_1 (by omega)) ?_ | refine tk (i := 17) rfl (by kernel_rfl) rfl (H.sub (by repeat (first | exact List.Sublist.refl _ | exact List.nil_sublist _ | apply List.Sublist.cons_cons | apply List.Sublist.cons))) (fun w' H => r_iA rfl rfl Tryd.underlying30 sz5_1 (by omega)) ?_
        refine fk (i := 18) (by kernel_rfl) rfl rfl rfl ?_
        first | refine stb H rfl rfl sc5 (by omega) (by first | decide | (simp only [List.length_set, List.length_cons, List.length_nil, List.length_replicate, List.length_append, Bs_length]; omega) | omega) (by omega) ?_ | refine st (v := .int .u8 _) H rfl rfl sc5 rfl (by first | decide | (simp only [List.length_set, List.length_cons, List.length_nil, List.length_replicate, List.length_append, Bs_length]; omega) | omega) (by omega) ?_
        clear H; intro w17 H _
        refine nl ?_
        refine then_n ?_
        refine ⟨H.sub (by repeat (first | exact List.Sublist.refl _ | exact List.nil_sublist _ | apply List.Sublist.cons_cons | apply List.Sublist.cons)), ?_⟩
        first | refine tk (i := 19) rfl (by kernel_rfl) rfl (H.sub (by repeat (first | exact List.Sublist.refl _ | exact List.nil_sublist _ | apply List.Sublist.cons_cons | apply List.Sublist.cons))) (fun w' H => r_ia rfl rfl Tryd.underlying30 sz5_1 (by omega)) ?_ | refine tk (i := 19) rfl (by kernel_rfl) rfl (H.sub (by repeat (first | exact List.Sublist.refl _ | exact List.nil_sublist _ | apply List.Sublist.cons_cons | apply List.Sublist.cons))) (fun w' H => r_iA rfl rfl Tryd.underlying30 sz5_1 (by omega)) ?_
        refine fk (i := 20) (by kernel_rfl) rfl rfl rfl ?_
        first | refine stb H rfl rfl sc5 (by omega) (by first | decide | (simp only [List.length_set, List.length_cons, List.length_nil, List.length_replicate, List.length_append, Bs_length]; omega) | omega) (by omega) ?_ | refine st (v := .int .u8 _) H rfl rfl sc5 rfl (by first | decide | (simp only [List.length_set, List.length_cons, List.length_nil, List.length_replicate, List.length_append, Bs_length]; omega) | omega) (by omega) ?_
        clear H; intro w18 H _
        refine nl ?_
        refine then_n ?_
        refine ⟨H.sub (by repeat (first | exact List.Sublist.refl _ | exact List.nil_sublist _ | apply List.Sublist.cons_cons | apply List.Sublist.cons)), ?_⟩
        first | refine tk (i := 21) rfl (by kernel_rfl) rfl (H.sub (by repeat (first | exact List.Sublist.refl _ | exact List.nil_sublist _ | apply List.Sublist.cons_cons | apply List.Sublist.cons))) (fun w' H => r_ia rfl rfl Tryd.underlying30 sz5_1 (by omega)) ?_ | refine tk (i := 21) rfl (by kernel_rfl) rfl (H.sub (by repeat (first | exact List.Sublist.refl _ | exact List.nil_sublist _ | apply List.Sublist.cons_cons | apply List.Sublist.cons))) (fun w' H => r_iA rfl rfl Tryd.underlying30 sz5_1 (by omega)) ?_
        refine fk (i := 22) (by kernel_rfl) rfl rfl rfl ?_
        first | refine stb H rfl rfl sc5 (by omega) (by first | decide | (simp only [List.length_set, List.length_cons, List.length_nil, List.length_replicate, List.length_append, Bs_length]; omega) | omega) (by omega) ?_ | refine st (v := .int .u8 _) H rfl rfl sc5 rfl (by first | decide | (simp only [List.length_set, List.length_cons, List.length_nil, List.length_replicate, List.length_append, Bs_length]; omega) | omega) (by omega) ?_
        clear H; intro w19 H _
        refine nl ?_
        refine then_n ?_
        refine ⟨H.sub (by repeat (first | exact List.Sublist.refl _ | exact List.nil_sublist _ | apply List.Sublist.cons_cons | apply List.Sublist.cons)), ?_⟩
        refine da (by kernel_rfl) ?_
        refine then_n ?_
        refine sq ?_
        refine dr (by kernel_rfl) ?_   -- region 9
        have H := H.drew
        refine hold (fun w' => SH w [b] w' [⟨b2, .cells p.cells.toArray 59 (0, 0), true⟩]) [] ?_
        refine tk (i := 0) rfl (by kernel_rfl) rfl (H.sub (by repeat (first | exact List.Sublist.refl _ | exact List.nil_sublist _ | apply List.Sublist.cons_cons | apply List.Sublist.cons))) (fun w' H => r_mv (v := .slice _ _ _) rfl) ?_
        refine tk (i := 1) rfl (by kernel_rfl) rfl (H.sub (by repeat (first | exact List.Sublist.refl _ | exact List.nil_sublist _ | apply List.Sublist.cons_cons | apply List.Sublist.cons))) (fun w' H => r_mv (v := .slice _ _ _) rfl) ?_
        refine tk (i := 2) rfl (by kernel_rfl) rfl (H.sub (by repeat (first | exact List.Sublist.refl _ | exact List.nil_sublist _ | apply List.Sublist.cons_cons | apply List.Sublist.cons))) (fun w' H => r_mv (v := .slice _ _ _) rfl) ?_
        refine tk (i := 3) rfl (by kernel_rfl) rfl (H.sub (by repeat (first | exact List.Sublist.refl _ | exact List.nil_sublist _ | apply List.Sublist.cons_cons | apply List.Sublist.cons))) (fun w' H => r_fa rfl fo59_5) ?_
        first | refine tk (i := 4) rfl (by kernel_rfl) rfl (H.sub (by repeat (first | exact List.Sublist.refl _ | exact List.nil_sublist _ | apply List.Sublist.cons_cons | apply List.Sublist.cons))) (fun w' H => r_iy rfl rfl Tryd.underlying57 sz5_1 (by omega)) ?_ | refine tk (i := 4) rfl (by kernel_rfl) rfl (H.sub (by repeat (first | exact List.Sublist.refl _ | exact List.nil_sublist _ | apply List.Sublist.cons_cons | apply List.Sublist.cons))) (fun w' H => r_iyB rfl rfl Tryd.underlying57 sz5_1 (by omega)) ?_
        first | refine tk (i := 5) rfl (by kernel_rfl) rfl (H.sub (by repeat (first | exact List.Sublist.refl _ | exact List.nil_sublist _ | apply List.Sublist.cons_cons | apply List.Sublist.cons))) (fun w' H => r_ldb H rfl sc5 (by omega)) ?_ | refine tk (i := 5) rfl (by kernel_rfl) rfl (H.sub (by repeat (first | exact List.Sublist.refl _ | exact List.nil_sublist _ | apply List.Sublist.cons_cons | apply List.Sublist.cons))) (fun w' H => r_ld H rfl sc5 rfl) ?_ | refine tk (i := 5) rfl (by kernel_rfl) rfl (H.sub (by repeat (first | exact List.Sublist.refl _ | exact List.nil_sublist _ | apply List.Sublist.cons_cons | apply List.Sublist.cons))) (fun w' H => r_lc rfl (by first | assumption | exact H.fr.cell (by assumption) (by simp)) sc5) ?_
        refine tk (i := 6) rfl (by kernel_rfl) rfl (H.sub (by repeat (first | exact List.Sublist.refl _ | exact List.nil_sublist _ | apply List.Sublist.cons_cons | apply List.Sublist.cons))) (fun w' H => r_fa rfl fo59_5) ?_
        first | refine tk (i := 7) rfl (by kernel_rfl) rfl (H.sub (by repeat (first | exact List.Sublist.refl _ | exact List.nil_sublist _ | apply List.Sublist.cons_cons | apply List.Sublist.cons))) (fun w' H => r_iy rfl rfl Tryd.underlying57 sz5_1 (by omega)) ?_ | refine tk (i := 7) rfl (by kernel_rfl) rfl (H.sub (by repeat (first | exact List.Sublist.refl _ | exact List.nil_sublist _ | apply List.Sublist.cons_cons | apply List.Sublist.cons))) (fun w' H => r_iyB rfl rfl Tryd.underlying57 sz5_1 (by omega)) ?_
        first | refine tk (i := 8) rfl (by kernel_rfl) rfl (H.sub (by repeat (first | exact List.Sublist.refl _ | exact List.nil_sublist _ | apply List.Sublist.cons_cons | apply List.Sublist.cons))) (fun w' H => r_ldb H rfl sc5 (by omega)) ?_ | refine tk (i := 8) rfl (by kernel_rfl) rfl (H.sub (by repeat (first | exact List.Sublist.refl _ | exact List.nil_sublist _ | apply List.Sublist.cons_cons | apply List.Sublist.cons))) (fun w' H => r_ld H rfl sc5 rfl) ?_ | refine tk (i := 8) rfl (by kernel_rfl) rfl (H.sub (by repeat (first | exact List.Sublist.refl _ | exact List.nil_sublist _ | apply List.Sublist.cons_cons | apply List.Sublist.cons))) (fun w' H => r_lc rfl (by first | assumption | exact H.fr.cell (by assumption) (by simp)) sc5) ?_
        refine tk (i := 9) rfl (by kernel_rfl) rfl (H.sub (by repeat (first | exact List.Sublist.refl _ | exact List.nil_sublist _ | apply List.Sublist.cons_cons | apply List.Sublist.cons))) (fun w' H => r_fa rfl fo59_5) ?_
        first | refine tk (i := 10) rfl (by kernel_rfl) rfl (H.sub (by repeat (first | exact List.Sublist.refl _ | exact List.nil_sublist _ | apply List.Sublist.cons_cons | apply List.Sublist.cons))) (fun w' H => r_iy rfl rfl Tryd.underlying57 sz5_1 (by omega)) ?_ | refine tk (i := 10) rfl (by kernel_rfl) rfl (H.sub (by repeat (first | exact List.Sublist.refl _ | exact List.nil_sublist _ | apply List.Sublist.cons_cons | apply List.Sublist.cons))) (fun w' H => r_iyB rfl rfl Tryd.underlying57 sz5_1 (by omega)) ?_
        first | refine tk (i := 11) rfl (by kernel_rfl) rfl (H.sub (by repeat (first | exact List.Sublist.refl _ | exact List.nil_sublist _ | apply List.Sublist.cons_cons | apply List.Sublist.cons))) (fun w' H => r_ldb H rfl sc5 (by omega)) ?_ | refine tk (i := 11) rfl (by kernel_rfl) rfl (H.sub (by repeat (first | exact List.Sublist.refl _ | exact List.nil_sublist _ | apply List.Sublist.cons_cons | apply List.Sublist.cons))) (fun w' H => r_ld H rfl sc5 rfl) ?_ | refine tk (i := 11) rfl (by kernel_rfl) rfl (H.sub (by repeat (first | exact List.Sublist.refl _ | exact List.nil_sublist _ | apply List.Sublist.cons_cons | apply List.Sublist.cons))) (fun w' H => r_lc rfl (by first | assumption | exact H.fr.cell (by assumption) (by simp)) sc5) ?_
        first | refine tk (i := 12) rfl (by kernel_rfl) rfl (H.sub (by repeat (first | exact List.Sublist.refl _ | exact List.nil_sublist _ | apply List.Sublist.cons_cons | apply List.Sublist.cons))) (fun w' H => r_ia rfl rfl Tryd.underlying30 sz5_1 (by omega)) ?_ | refine tk (i := 12) rfl (by kernel_rfl) rfl (H.sub (by repeat (first | exact List.Sublist.refl _ | exact List.nil_sublist _ | apply List.Sublist.cons_cons | apply List.Sublist.cons))) (fun w' H => r_iA rfl rfl Tryd.underlying30 sz5_1 (by omega)) ?_
        refine fk (i := 13) (by kernel_rfl) rfl rfl rfl ?_
        first | refine stb H rfl rfl sc5 (by omega) (by first | decide | (simp only [List.length_set, List.length_cons, List.length_nil, List.length_replicate, List.length_append, Bs_length]; omega) | omega) (by omega) ?_ | refine st (v := .int .u8 _) H rfl rfl sc5 rfl (by first | decide | (simp only [List.length_set, List.length_cons, List.length_nil, List.length_replicate, List.length_append, Bs_length]; omega) | omega) (by omega) ?_
        clear H; intro w20 H _
        refine nl ?_
        refine then_n ?_
        refine ⟨H.sub (by repeat (first | exact List.Sublist.refl _ | exact List.nil_sublist _ | apply List.Sublist.cons_cons | apply List.Sublist.cons)), ?_⟩
        first | refine tk (i := 14) rfl (by kernel_rfl) rfl (H.sub (by repeat (first | exact List.Sublist.refl _ | exact List.nil_sublist _ | apply List.Sublist.cons_cons | apply List.Sublist.cons))) (fun w' H => r_ia rfl rfl Tryd.underlying30 sz5_1 (by omega)) ?_ | refine tk (i := 14) rfl (by kernel_rfl) rfl (H.sub (by repeat (first | exact List.Sublist.refl _ | exact List.nil_sublist _ | apply List.Sublist.cons_cons | apply List.Sublist.cons))) (fun w' H => r_iA rfl rfl Tryd.underlying30 sz5_1 (by omega)) ?_
        refine fk (i := 15) (by kernel_rfl) rfl rfl rfl ?_
        first | refine stb H rfl rfl sc5 (by omega) (by first | decide | (simp only [List.length_set, List.length_cons, List.length_nil, List.length_replicate, List.length_append, Bs_length]; omega) | omega) (by omega) ?_ | refine st (v := .int .u8 _) H rfl rfl sc5 rfl (by first | decide | (simp only [List.length_set, List.length_cons, List.length_nil, List.length_replicate, List.length_append, Bs_length]; omega) | omega) (by omega) ?_
        clear H; intro w21 H _
        refine nl ?_
        refine then_n ?_
        refine ⟨H.sub (by repeat (first | exact List.Sublist.refl _ | exact List.nil_sublist _ | apply List.Sublist.cons_cons | apply List.Sublist.cons)), ?_⟩
        first | refine tk (i := 16) rfl (by kernel_rfl) rfl (H.sub (by repeat (first | exact List.Sublist.refl _ | exact List.nil_sublist _ | apply List.Sublist.cons_cons | apply List.Sublist.cons))) (fun w' H => r_ia rfl rfl Tryd.underlying30 sz5_1 (by omega)) ?_ | refine tk (i := 16) rfl (by kernel_rfl) rfl (H.sub (by repeat (first | exact List.Sublist.refl _ | exact List.nil_sublist _ | apply List.Sublist.cons_cons | apply List.Sublist.cons))) (fun w' H => r_iA rfl rfl Tryd.underlying30 sz5_1 (by omega)) ?_
        refine fk (i := 17) (by kernel_rfl) rfl rfl rfl ?_
        first | refine stb H rfl rfl sc5 (by omega) (by first | decide | (simp only [List.length_set, List.length_cons, List.length_nil, List.length_replicate, List.length_append, Bs_length]; omega) | omega) (by omega) ?_ | refine st (v := .int .u8 _) H rfl rfl sc5 rfl (by first | decide | (simp only [List.length_set, List.length_cons, List.length_nil, List.length_replicate, List.length_append, Bs_length]; omega) | omega) (by omega) ?_
        clear H; intro w22 H _
        refine nl ?_
        refine then_n ?_
        refine ⟨H.sub (by repeat (first | exact List.Sublist.refl _ | exact List.nil_sublist _ | apply List.Sublist.cons_cons | apply List.Sublist.cons)), ?_⟩
        refine da (by kernel_rfl) ?_
        refine then_n ?_
        refine sq ?_
        refine dr (by kernel_rfl) ?_   -- region 10
        have H := H.drew
        refine hold (fun w' => SH w [b] w' [⟨b2, .cells p.cells.toArray 59 (0, 0), true⟩]) [] ?_
        refine tk (i := 0) rfl (by kernel_rfl) rfl (H.sub (by repeat (first | exact List.Sublist.refl _ | exact List.nil_sublist _ | apply List.Sublist.cons_cons | apply List.Sublist.cons))) (fun w' H => r_mv (v := .slice _ _ _) rfl) ?_
        refine tk (i := 1) rfl (by kernel_rfl) rfl (H.sub (by repeat (first | exact List.Sublist.refl _ | exact List.nil_sublist _ | apply List.Sublist.cons_cons | apply List.Sublist.cons))) (fun w' H => r_sllh rfl rfl rfl Tryd.underlying30 sz5_1 (by first | trivial | omega | (simp; omega))) ?_
        refine tk (i := 2) rfl (by kernel_rfl) rfl (H.sub (by repeat (first | exact List.Sublist.refl _ | exact List.nil_sublist _ | apply List.Sublist.cons_cons | apply List.Sublist.cons))) (fun w' H => r_fa rfl fo59_3) ?_
        first | refine tk (i := 3) rfl (by kernel_rfl) rfl (H.sub (by repeat (first | exact List.Sublist.refl _ | exact List.nil_sublist _ | apply List.Sublist.cons_cons | apply List.Sublist.cons))) (fun w' H => r_ld H rfl sc53 rfl) ?_ | refine tk (i := 3) rfl (by kernel_rfl) rfl (H.sub (by repeat (first | exact List.Sublist.refl _ | exact List.nil_sublist _ | apply List.Sublist.cons_cons | apply List.Sublist.cons))) (fun w' H => r_lc rfl (by first | assumption | exact H.fr.cell (by assumption) (by simp)) sc53) ?_ | refine tk (i := 3) rfl (by kernel_rfl) rfl (H.sub (by repeat (first | exact List.Sublist.refl _ | exact List.nil_sublist _ | apply List.Sublist.cons_cons | apply List.Sublist.cons))) (fun w' H => r_ld H rfl sc53 (by assumption)) ?_
        refine tk (i := 4) rfl (by kernel_rfl) rfl (H.sub (by repeat (first | exact List.Sublist.refl _ | exact List.nil_sublist _ | apply List.Sublist.cons_cons | apply List.Sublist.cons))) (fun w' H => r_cvi rfl rfl Tryd.underlying28 (by first | exact w_u64 (by omega) | exact w_u64 (rng_u64 _) | exact m_u64 _)) ?_
        refine fk (i := 5) (by kernel_rfl) rfl rfl rfl ?_
        refine cl ca43 (c_putLe _ _ _ _ _ _ _ _ H.look (by first | omega | ((try simp only [pAt_length, leB_len, gB_len, List.length_set, List.length_replicate]); omega)) (by omega)) rfl ?_
        rintro _ w23 ⟨rfl, hlen, F, hnew⟩
        replace H := H.put F hnew; clear F hnew
        refine nl ?_
        refine then_n ?_
        refine ⟨H.sub (by repeat (first | exact List.Sublist.refl _ | exact List.nil_sublist _ | apply List.Sublist.cons_cons | apply List.Sublist.cons)), ?_⟩
        refine da (by kernel_rfl) ?_
        refine then_n ?_
        refine dr (by kernel_rfl) ?_   -- region 11
        have H := H.drew
        refine hold (fun w' => SH w [b] w' [⟨b2, .cells p.cells.toArray 59 (0, 0), true⟩]) [] ?_
        refine tk (i := 0) rfl (by kernel_rfl) rfl (H.sub (by repeat (first | exact List.Sublist.refl _ | exact List.nil_sublist _ | apply List.Sublist.cons_cons | apply List.Sublist.cons))) (fun w' H => r_mv (v := .slice _ _ _) rfl) ?_
        refine tk (i := 1) rfl (by kernel_rfl) rfl (H.sub (by repeat (first | exact List.Sublist.refl _ | exact List.nil_sublist _ | apply List.Sublist.cons_cons | apply List.Sublist.cons))) (fun w' H => r_sllh rfl rfl rfl Tryd.underlying30 sz5_1 (by first | trivial | omega | (simp; omega))) ?_
        refine tk (i := 2) rfl (by kernel_rfl) rfl (H.sub (by repeat (first | exact List.Sublist.refl _ | exact List.nil_sublist _ | apply List.Sublist.cons_cons | apply List.Sublist.cons))) (fun w' H => r_fa rfl fo59_4) ?_
        first | refine tk (i := 3) rfl (by kernel_rfl) rfl (H.sub (by repeat (first | exact List.Sublist.refl _ | exact List.nil_sublist _ | apply List.Sublist.cons_cons | apply List.Sublist.cons))) (fun w' H => r_ld H rfl sc53 rfl) ?_ | refine tk (i := 3) rfl (by kernel_rfl) rfl (H.sub (by repeat (first | exact List.Sublist.refl _ | exact List.nil_sublist _ | apply List.Sublist.cons_cons | apply List.Sublist.cons))) (fun w' H => r_lc rfl (by first | assumption | exact H.fr.cell (by assumption) (by simp)) sc53) ?_ | refine tk (i := 3) rfl (by kernel_rfl) rfl (H.sub (by repeat (first | exact List.Sublist.refl _ | exact List.nil_sublist _ | apply List.Sublist.cons_cons | apply List.Sublist.cons))) (fun w' H => r_ld H rfl sc53 (by assumption)) ?_
        refine tk (i := 4) rfl (by kernel_rfl) rfl (H.sub (by repeat (first | exact List.Sublist.refl _ | exact List.nil_sublist _ | apply List.Sublist.cons_cons | apply List.Sublist.cons))) (fun w' H => r_cvi rfl rfl Tryd.underlying28 (by first | exact w_u64 (by omega) | exact w_u64 (rng_u64 _) | exact m_u64 _)) ?_
        refine fk (i := 5) (by kernel_rfl) rfl rfl rfl ?_
        refine cl ca43 (c_putLe _ _ _ _ _ _ _ _ H.look (by first | omega | ((try simp only [pAt_length, leB_len, gB_len, List.length_set, List.length_replicate]); omega)) (by omega)) rfl ?_
        rintro _ w24 ⟨rfl, hlen, F, hnew⟩
        replace H := H.put F hnew; clear F hnew
        refine nl ?_
        refine then_n ?_
        refine ⟨H.sub (by repeat (first | exact List.Sublist.refl _ | exact List.nil_sublist _ | apply List.Sublist.cons_cons | apply List.Sublist.cons)), ?_⟩
        refine da (by kernel_rfl) ?_
        refine in_n ?_
        refine then_n ?_
        refine rg ?_
        refine add rfl rfl (by first | exact w_i64 (by omega) | exact w_i64 (rng_i64 _) | rfl) rfl ?_
        refine mv (v := .int .i64 _) rfl rfl ?_
        refine nl ?_
        refine loop_n ?_
        exact ⟨i + 1, (by (try dsimp only); omega), ⟨by omega, sh_bytes H.drop ((entry_put (X := pAt ds 446 ((ps.take i).flatMap MP.bytes)) (o := 446 + 16 * i) (by omega) (set_eq (by omega) (by simp [hc2])) (by omega) (by omega) (by omega) (by omega) (by omega) (by omega) (by omega) (by omega) (by omega) (leB_len 4 _) (leB_len 4 _)).trans (entry_at hp (by omega) hd))⟩, (fC (by first | rfl | exact congrArg (Value.int _) (by first | omega | assumption | (symm; assumption) | (simp; done) | (simp; omega)) | exact congrArg (fun n => Value.slice _ n _) (by first | omega | (simp; done) | (simp; omega))) (fN _)), (by repeat (first | exact Agree.setL rfl Agree.mask | exact Agree.self _ _ | refine Agree.upd rfl ?_ | refine Agree.setL rfl ?_ | refine Agree.mask2 rfl ?_))⟩
    · refine ex ?_
      refine then_e ?_
      refine loop_e ?_
      refine in_hit rfl ?_
      refine then_n ?_
      refine rg ?_
      refine mv (v := .slice _ _ _) rfl rfl ?_
      refine mv (v := .slice _ _ _) rfl rfl ?_
      first | refine ia rfl rfl Tryd.underlying30 sz5_1 (by omega) rfl ?_ | refine iA rfl rfl Tryd.underlying30 sz5_1 (by omega) rfl ?_
      first | refine stb H rfl rfl sc5 (by omega) (by first | decide | (simp only [List.length_set, List.length_cons, List.length_nil, List.length_replicate, List.length_append, Bs_length]; omega) | omega) (by omega) ?_ | refine st (v := .int .u8 _) H rfl rfl sc5 rfl (by first | decide | (simp only [List.length_set, List.length_cons, List.length_nil, List.length_replicate, List.length_append, Bs_length]; omega) | omega) (by omega) ?_
      clear H; intro w25 H _
      first | refine ia rfl rfl Tryd.underlying30 sz5_1 (by omega) rfl ?_ | refine iA rfl rfl Tryd.underlying30 sz5_1 (by omega) rfl ?_
      first | refine stb H rfl rfl sc5 (by omega) (by first | decide | (simp only [List.length_set, List.length_cons, List.length_nil, List.length_replicate, List.length_append, Bs_length]; omega) | omega) (by omega) ?_ | refine st (v := .int .u8 _) H rfl rfl sc5 rfl (by first | decide | (simp only [List.length_set, List.length_cons, List.length_nil, List.length_replicate, List.length_append, Bs_length]; omega) | omega) (by omega) ?_
      clear H; intro w26 H _
      refine nl ?_
      refine fin_n ?_
      have hl : (mbrB ds ps).length = ds.length := by
          unfold mbrB
          exact pAt_len (by rw [List.length_append, flat_len MP.bytes_len, h4]; simp; omega)
      exact ⟨rfl, hl, H.fr, H.look.trans (congrArg (fun l => some (Obj.cells (Bs l).toArray T (0, 0))) (mbr_end h4 hd (by omega)))⟩

set_option maxRecDepth 100000 in
set_option maxHeartbeats 1000000 in
theorem c_bytesEqual (w : World) (A A2 : Option Addr) (n c n2 c2 : Nat) (xs ys : List UInt8) (hx : RB w A n xs) (hy : RB w A2 n2 ys) : Calls Tryd.prog 63 #[.slice A n c, .slice A2 n2 c2] w (Ret fun v w' => v = .bool (decide (xs = ys)) ∧ Fr [] w w') := by
  refine enter (fun ρ => ρ 4) Tryd.func63 rfl rfl rfl (res1 rfl) ?_
  have H := SH.nil w
  refine sq ?_
  refine rg ?_
  refine asg (v := .bool _) rfl rfl ?_
  refine nl ?_
  refine then_n ?_
  refine sq ?_
  refine rg ?_
  refine mv (v := .slice _ _ _) rfl rfl ?_
  refine cvBS rfl (by first | exact hx | exact hy) Tryd.underlying30 Tryd.underlying5 Tryd.underlying9 rfl ?_
  refine mv (v := .slice _ _ _) rfl rfl ?_
  refine cvBS rfl (by first | exact hx | exact hy) Tryd.underlying30 Tryd.underlying5 Tryd.underlying9 rfl ?_
  refine eqlT rfl rfl rfl ?_
  refine asg (v := .bool _) rfl rfl ?_
  refine nl ?_
  refine then_n ?_
  refine rt ?_
  refine fin_r ?_
  exact ⟨rfl, H.fr⟩

set_option maxRecDepth 100000 in
set_option maxHeartbeats 1000000 in
theorem c_partDisk (w : World) (s z : Nat) (x : Int) (hx : 0 ≤ x ∧ x ≤ 255) (hs : s * z ≤ 100000000) (hs2 : s ≤ 100000000 ∧ z ≤ 100000000) : Calls Tryd.prog 10 #[.int .i64 (s : Int), .int .i64 (z : Int), .int .u8 x] w (Ret fun v w' => ∃ b ds, v = .slice (some ⟨b, 0, none⟩) (s * z) (s * z) ∧ ds.length = s * z ∧ w.heap.size ≤ b ∧ w'.heap[b]? = some (.cells (Bs ds).toArray 5 (0, 0)) ∧ Fr [] w w') := by
  refine enter (fun ρ => ρ 6) Tryd.func10 rfl rfl rfl (res1 rfl) ?_
  have H := SH.nil w
  have hm : (s : Int) * (z : Int) = ((s * z : Nat) : Int) := by simp
  generalize hn : s * z = n at hm hs
  refine sq ?_
  refine rg ?_
  refine asg (v := .slice _ _ _) rfl rfl ?_
  refine nl ?_
  refine then_n ?_
  refine sq ?_
  refine rg ?_
  refine mv (v := .int .i64 _) rfl rfl ?_
  refine mv (v := .int .i64 _) rfl rfl ?_
  refine mul (c := (n : Int)) rfl rfl (by rw [hm]; exact w_i64 (by omega)) rfl ?_
  refine mkB H rfl rfl Tryd.underlying30 mi5 (by omega) (by omega) (by omega) (by omega) rfl ?_
  clear H; intro b1 w1 hb1 H _
  refine asg (v := .slice _ _ _) rfl rfl ?_
  refine nl ?_
  refine then_n ?_
  refine sq ?_
  refine sq ?_
  refine rg ?_
  refine mv (v := .int .u8 _) rfl rfl ?_
  refine eql rfl rfl rfl ?_
  refine nl ?_
  refine then_n ?_
  first | refine cd rfl (fun hc1 => ?_) (fun hc1 => ?_) | refine cn rfl (fun hc1 => ?_) (fun hc1 => ?_)   -- test 1
  · refine sq ?_
    refine rg ?_
    refine mv (v := .slice _ _ _) rfl rfl ?_
    refine asg (v := .slice _ _ _) rfl rfl ?_
    refine nl ?_
    refine then_n ?_
    refine rt ?_
    refine then_r ?_
    refine fin_r ?_
    exact ⟨_, _, rfl, by simp, H.ge, H.look, H.fr⟩
  · refine sk ?_
    refine then_n ?_
    refine sq ?_
    refine rg ?_
    refine mv (v := .int .u8 _) rfl rfl ?_
    refine cvi rfl rfl Tryd.underlying53 (by first | exact w_u32 (by omega) | exact w_u32 (rng_u32 _) | exact m_u32 _) rfl ?_
    refine asg (v := .int .u32 _) rfl rfl ?_
    refine nl ?_
    refine then_n ?_
    refine sq ?_
    refine sq ?_
    refine rg ?_
    refine mv (v := .slice _ _ _) rfl rfl ?_
    refine lnS rfl Tryd.underlying30 rfl ?_
    refine mv (v := .int .i64 _) rfl rfl ?_
    refine nl ?_
    refine then_n ?_
    refine bk ?_
    refine lpM (α := Nat × Int × List UInt8) [8, 9, 21, 22, 23, 24, 25, 26, 27, 28, 29, 30, 31, 32, 33] (fun (i, y, ds) => [(8, .int .u32 y), (21, .int .i64 (i : Int))]) (fun (i, y, ds) w' => i ≤ n ∧ ds.length = n ∧ SH w [] w' [⟨b1, .cells (Bs ds).toArray 5 (0, 0), true⟩]) (fun (i, y, ds) => n - i) (0, x, List.replicate ((n : Int)).toNat 0) ?_ (fC (by first | rfl | exact congrArg (Value.int _) (by first | omega | assumption | (symm; assumption) | (simp; done) | (simp; omega)) | exact congrArg (fun n => Value.slice _ n _) (by first | omega | (simp; done) | (simp; omega))) (fC (by first | rfl | exact congrArg (Value.int _) (by first | omega | assumption | (symm; assumption) | (simp; done) | (simp; omega)) | exact congrArg (fun n => Value.slice _ n _) (by first | omega | (simp; done) | (simp; omega))) (fN _))) ?_   -- loop 1
    · exact ⟨by omega, by simp, H⟩
    · rintro ⟨i, y, ds⟩ ρx w2 ⟨hi, hl, H⟩
      refine sq ?_
      refine rg ?_
      refine lss rfl rfl rfl ?_
      refine nl ?_
      refine then_n ?_
      refine sq ?_
      first | refine cd rfl (fun hc2 => ?_) (fun hc2 => ?_) | refine cn rfl (fun hc2 => ?_) (fun hc2 => ?_)   -- test 2
      · refine sk ?_
        refine then_n ?_
        refine sq ?_
        refine bk ?_
        refine sq ?_
        refine rg ?_
        refine mv (v := .int .i64 _) rfl rfl ?_
        refine asg (v := .int .i64 _) rfl rfl ?_
        refine nl ?_
        refine then_n ?_
        refine sq ?_
        refine rg ?_
        refine mv (v := .int .u32 _) rfl rfl ?_
        refine mul rfl rfl (by first | exact w_u32 (by omega) | exact w_u32 (rng_u32 _) | exact m_u32 _) rfl ?_
        refine add rfl rfl (by first | exact w_u32 (by omega) | exact w_u32 (rng_u32 _) | exact m_u32 _) rfl ?_
        refine asg (v := .int .u32 _) rfl rfl ?_
        refine nl ?_
        refine then_n ?_
        refine rg ?_
        refine mv (v := .slice _ _ _) rfl rfl ?_
        refine mv (v := .int .i64 _) rfl rfl ?_
        refine mv (v := .int .u32 _) rfl rfl ?_
        refine shrK (s := 24) (p := 16777216) rfl rfl (by decide) (by decide) rfl rfl ?_
        refine cvi rfl rfl Tryd.underlying5 (by first | exact w_u8 (by omega) | exact w_u8 (rng_u8 _) | exact m_u8 _) rfl ?_
        first | refine ia rfl rfl Tryd.underlying30 sz5_1 (by omega) rfl ?_ | refine iA rfl rfl Tryd.underlying30 sz5_1 (by omega) rfl ?_
        first | refine stb H rfl rfl sc5 (by omega) (by first | decide | (simp only [List.length_set, List.length_cons, List.length_nil, List.length_replicate, List.length_append, Bs_length]; omega) | omega) (by omega) ?_ | refine st (v := .int .u8 _) H rfl rfl sc5 rfl (by first | decide | (simp only [List.length_set, List.length_cons, List.length_nil, List.length_replicate, List.length_append, Bs_length]; omega) | omega) (by omega) ?_
        clear H; intro w3 H _
        refine nl ?_
        refine in_n ?_
        refine then_n ?_
        refine rg ?_
        refine add rfl rfl (by first | exact w_i64 (by omega) | exact w_i64 (rng_i64 _) | rfl) rfl ?_
        refine mv (v := .int .i64 _) rfl rfl ?_
        refine nl ?_
        refine loop_n ?_
        exact ⟨(i + 1, _, _), (by (try dsimp only); omega), ⟨by omega, by rw [List.length_set]; exact hl, H⟩, (fC (by first | rfl | exact congrArg (Value.int _) (by first | omega | assumption | (symm; assumption) | (simp; done) | (simp; omega)) | exact congrArg (fun n => Value.slice _ n _) (by first | omega | (simp; done) | (simp; omega))) (fC (by first | rfl | exact congrArg (Value.int _) (by first | omega | assumption | (symm; assumption) | (simp; done) | (simp; omega)) | exact congrArg (fun n => Value.slice _ n _) (by first | omega | (simp; done) | (simp; omega))) (fN _))), (by repeat (first | exact Agree.setL rfl Agree.mask | exact Agree.self _ _ | refine Agree.upd rfl ?_ | refine Agree.setL rfl ?_ | refine Agree.mask2 rfl ?_))⟩
      · refine ex ?_
        refine then_e ?_
        refine loop_e ?_
        refine in_hit rfl ?_
        refine then_n ?_
        refine sq ?_
        refine rg ?_
        refine mv (v := .slice _ _ _) rfl rfl ?_
        refine asg (v := .slice _ _ _) rfl rfl ?_
        refine nl ?_
        refine then_n ?_
        refine rt ?_
        refine fin_r ?_
        exact ⟨_, _, rfl, hl, H.ge, H.look, H.fr⟩

end Go.Proofs.YthcaejaaalkglaaDoor.X
/- Walks of functions, printed by a program of this claim. -/
namespace Go.Proofs.YthcaejaaalkglaaDoor.X
set_option linter.unusedVariables false
set_option linter.unusedSimpArgs false
open Go Go.RowKit

namespace P5
theorem ag45_16 : aggB Tryd.prog 45 16 = true := by kernel_rfl
theorem ca21 : callable Tryd.prog 21 = true := by kernel_rfl
theorem ca40 : callable Tryd.prog 40 = true := by kernel_rfl
theorem ca43 : callable Tryd.prog 43 = true := by kernel_rfl
theorem fo49_1 : fieldOff Tryd.prog 49 1 = some 1 := by kernel_rfl
theorem fo49_2 : fieldOff Tryd.prog 49 2 = some 2 := by kernel_rfl
theorem fo49_4 : fieldOff Tryd.prog 49 4 = some 4 := by kernel_rfl
theorem fo49_5 : fieldOff Tryd.prog 49 5 = some 5 := by kernel_rfl
theorem fo49_6 : fieldOff Tryd.prog 49 6 = some 6 := by kernel_rfl
theorem fo49_7 : fieldOff Tryd.prog 49 7 = some 7 := by kernel_rfl
theorem sc25 : scalarB Tryd.prog 25 = true := by kernel_rfl
theorem sc28 : scalarB Tryd.prog 28 = true := by kernel_rfl
theorem sc9 : scalarB Tryd.prog 9 = true := by kernel_rfl
theorem sz25_1 : sizeB Tryd.prog 25 1 = true := by kernel_rfl
theorem sz5_1 : sizeB Tryd.prog 5 1 = true := by kernel_rfl
theorem ze45 : zeroL Tryd.prog 45 = some [.int .u8 0, .int .u8 0, .int .u8 0, .int .u8 0, .int .u8 0, .int .u8 0, .int .u8 0, .int .u8 0, .int .u8 0, .int .u8 0, .int .u8 0, .int .u8 0, .int .u8 0, .int .u8 0, .int .u8 0, .int .u8 0] := by kernel_rfl

end P5
open P5

set_option maxRecDepth 100000 in
set_option maxHeartbeats 1000000 in
theorem c_gptEntry (w : World) (b o n c : Nat) (T : TypeId) (cur : List UInt8) (p : GP) (hb : w.heap[b]? = some (.cells (Bs cur).toArray T (0, 0))) (hn : n = 128) (hc : n ≤ c) (ho : o + n ≤ cur.length) (hp : p.ok) (hf : p.fit) (h36 : (utf16 p.nm).length ≤ 36) : Calls Tryd.prog 42 #[.slice (some ⟨b, o, none⟩) n c, .agg p.cells.toArray] w (Ret fun v w' => v = .tuple #[] ∧ (pAt cur o (entB p)).length = cur.length ∧ Fr [b] w w' ∧ w'.heap[b]? = some (.cells (Bs (pAt cur o (entB p))).toArray T (0, 0))) := by
  refine enter (fun _ => .tuple #[]) Tryd.func42 rfl rfl rfl (res0 rfl) ?_
  have H := SH.rw1 hb
  have hst := hp.st; have hen := hp.en; have hat := hp.att; have hnm := hf.nm
  refine sq ?_
  refine rg ?_
  refine bx (v := .agg _) H rfl rfl rfl ?_
  clear H; intro b1 w1 hb1 H _
  refine nl ?_
  refine then_n ?_
  refine sq ?_
  refine rg ?_
  refine fa rfl fo49_4 rfl ?_
  first | refine ld H rfl sc9 rfl rfl ?_ | refine lc rfl (by first | assumption | exact H.fr.cell (by assumption) (by simp)) sc9 rfl ?_ | refine ld H rfl sc9 (by assumption) rfl ?_
  refine cl ca21 (c_guidBytes _ _) rfl ?_
  rintro _ w2 ⟨rfl, F⟩
  replace H := H.keep F; clear F
  refine mv (v := .tuple _) rfl rfl ?_
  refine xt rfl rfl rfl ?_
  refine xt rfl rfl rfl ?_
  refine al H ze45 rfl ?_
  clear H; intro b2 w3 hb2 H _
  refine sa (cs' := Bs (gB p.ty)) H rfl rfl ag45_16 (by rw [Bs_length, gB_len]) (List.all_eq_true.2 Bs_one) (by decide) (by omega) (List.append_nil _) ?_
  clear H; intro w91 H _
  refine asg (v := .bool _) rfl rfl ?_
  refine nl ?_
  refine then_n ?_
  refine sq ?_
  refine rg ?_
  refine fa rfl fo49_6 rfl ?_
  first | refine ld H rfl sc9 rfl rfl ?_ | refine lc rfl (by first | assumption | exact H.fr.cell (by assumption) (by simp)) sc9 rfl ?_ | refine ld H rfl sc9 (by assumption) rfl ?_
  refine cl ca21 (c_guidBytes _ _) rfl ?_
  rintro _ w4 ⟨rfl, F⟩
  replace H := H.keep F; clear F
  refine mv (v := .tuple _) rfl rfl ?_
  refine xt rfl rfl rfl ?_
  refine xt rfl rfl rfl ?_
  refine al H ze45 rfl ?_
  clear H; intro b3 w5 hb3 H _
  refine sa (cs' := Bs (gB p.gu)) H rfl rfl ag45_16 (by rw [Bs_length, gB_len]) (List.all_eq_true.2 Bs_one) (by decide) (by omega) (List.append_nil _) ?_
  clear H; intro w92 H _
  refine asg (v := .bool _) rfl rfl ?_
  refine nl ?_
  refine then_n ?_
  refine sq ?_
  refine rg ?_
  refine mv (v := .slice _ _ _) rfl rfl ?_
  refine slY rfl Tryd.underlying45 sz5_1 (by first | trivial | omega | (simp; omega)) rfl ?_
  refine cpP (bs := gB p.ty) H rfl rfl Tryd.underlying30 sz5_1 (RB.allm H (gB_len p.ty)) (by omega) (by first | omega | (rw [pAt_len (by rw [gB_len]; omega)]; omega)) (by omega) rfl ?_
  clear H; intro w6 H _ hlen
  refine nl ?_
  refine then_n ?_
  refine sq ?_
  refine dr (by kernel_rfl) ?_   -- region 4
  have H := H.drew
  refine hold (fun w' => SH w [b] w' [⟨b3, .cells (Bs (gB p.gu)).toArray 45 (0, 0), true⟩, ⟨b2, .cells (Bs (gB p.ty)).toArray 45 (0, 0), true⟩, ⟨b1, .cells p.cells.toArray 49 (0, 0), true⟩]) [] ?_
  refine tk (i := 0) rfl (by kernel_rfl) rfl (H.sub (by repeat (first | exact List.Sublist.refl _ | exact List.nil_sublist _ | apply List.Sublist.cons_cons | apply List.Sublist.cons))) (fun w' H => r_mv (v := .slice _ _ _) rfl) ?_
  refine tk (i := 1) rfl (by kernel_rfl) rfl (H.sub (by repeat (first | exact List.Sublist.refl _ | exact List.nil_sublist _ | apply List.Sublist.cons_cons | apply List.Sublist.cons))) (fun w' H => r_sllN (o + 16) (112) (c - 16) rfl rfl Tryd.underlying30 sz5_1 (by omega) (by omega)) ?_
  refine tk (i := 2) rfl (by kernel_rfl) rfl (H.sub (by repeat (first | exact List.Sublist.refl _ | exact List.nil_sublist _ | apply List.Sublist.cons_cons | apply List.Sublist.cons))) (fun w' H => r_slY rfl Tryd.underlying45 sz5_1 (by first | trivial | omega | (simp; omega))) ?_
  refine fk (i := 3) (by kernel_rfl) rfl rfl rfl ?_
  refine cpP (bs := gB p.gu) H rfl rfl Tryd.underlying30 sz5_1 (RB.allm H (gB_len p.gu)) (by omega) (by first | omega | (rw [pAt_len (by rw [gB_len]; omega)]; omega)) (by omega) rfl ?_
  clear H; intro w7 H _ hlen
  refine nl ?_
  refine then_n ?_
  refine ⟨H.sub (by repeat (first | exact List.Sublist.refl _ | exact List.nil_sublist _ | apply List.Sublist.cons_cons | apply List.Sublist.cons)), ?_⟩
  refine da (by kernel_rfl) ?_
  refine then_n ?_
  refine sq ?_
  refine dr (by kernel_rfl) ?_   -- region 5
  have H := H.drew
  refine hold (fun w' => SH w [b] w' [⟨b3, .cells (Bs (gB p.gu)).toArray 45 (0, 0), true⟩, ⟨b2, .cells (Bs (gB p.ty)).toArray 45 (0, 0), true⟩, ⟨b1, .cells p.cells.toArray 49 (0, 0), true⟩]) [] ?_
  refine tk (i := 0) rfl (by kernel_rfl) rfl (H.sub (by repeat (first | exact List.Sublist.refl _ | exact List.nil_sublist _ | apply List.Sublist.cons_cons | apply List.Sublist.cons))) (fun w' H => r_mv (v := .slice _ _ _) rfl) ?_
  refine tk (i := 1) rfl (by kernel_rfl) rfl (H.sub (by repeat (first | exact List.Sublist.refl _ | exact List.nil_sublist _ | apply List.Sublist.cons_cons | apply List.Sublist.cons))) (fun w' H => r_sllhN (o + 32) (8) (c - 32) rfl rfl rfl Tryd.underlying30 sz5_1 (by omega) (by omega)) ?_
  refine tk (i := 2) rfl (by kernel_rfl) rfl (H.sub (by repeat (first | exact List.Sublist.refl _ | exact List.nil_sublist _ | apply List.Sublist.cons_cons | apply List.Sublist.cons))) (fun w' H => r_fa rfl fo49_1) ?_
  first | refine tk (i := 3) rfl (by kernel_rfl) rfl (H.sub (by repeat (first | exact List.Sublist.refl _ | exact List.nil_sublist _ | apply List.Sublist.cons_cons | apply List.Sublist.cons))) (fun w' H => r_ld H rfl sc28 rfl) ?_ | refine tk (i := 3) rfl (by kernel_rfl) rfl (H.sub (by repeat (first | exact List.Sublist.refl _ | exact List.nil_sublist _ | apply List.Sublist.cons_cons | apply List.Sublist.cons))) (fun w' H => r_lc rfl (by first | assumption | exact H.fr.cell (by assumption) (by simp)) sc28) ?_ | refine tk (i := 3) rfl (by kernel_rfl) rfl (H.sub (by repeat (first | exact List.Sublist.refl _ | exact List.nil_sublist _ | apply List.Sublist.cons_cons | apply List.Sublist.cons))) (fun w' H => r_ld H rfl sc28 (by assumption)) ?_
  refine fk (i := 4) (by kernel_rfl) rfl rfl rfl ?_
  refine cl ca43 (c_putLe _ _ _ _ _ _ _ _ H.look (by first | omega | ((try simp only [pAt_length, leB_len, gB_len, List.length_set, List.length_replicate]); omega)) (by omega)) rfl ?_
  rintro _ w8 ⟨rfl, hlen, F, hnew⟩
  replace H := H.put F hnew; clear F hnew
  refine nl ?_
  refine then_n ?_
  refine ⟨H.sub (by repeat (first | exact List.Sublist.refl _ | exact List.nil_sublist _ | apply List.Sublist.cons_cons | apply List.Sublist.cons)), ?_⟩
  refine da (by kernel_rfl) ?_
  refine then_n ?_
  refine sq ?_
  refine dr (by kernel_rfl) ?_   -- region 6
  have H := H.drew
  refine hold (fun w' => SH w [b] w' [⟨b3, .cells (Bs (gB p.gu)).toArray 45 (0, 0), true⟩, ⟨b2, .cells (Bs (gB p.ty)).toArray 45 (0, 0), true⟩, ⟨b1, .cells p.cells.toArray 49 (0, 0), true⟩]) [] ?_
  refine tk (i := 0) rfl (by kernel_rfl) rfl (H.sub (by repeat (first | exact List.Sublist.refl _ | exact List.nil_sublist _ | apply List.Sublist.cons_cons | apply List.Sublist.cons))) (fun w' H => r_mv (v := .slice _ _ _) rfl) ?_
  refine tk (i := 1) rfl (by kernel_rfl) rfl (H.sub (by repeat (first | exact List.Sublist.refl _ | exact List.nil_sublist _ | apply List.Sublist.cons_cons | apply List.Sublist.cons))) (fun w' H => r_sllhN (o + 40) (8) (c - 40) rfl rfl rfl Tryd.underlying30 sz5_1 (by omega) (by omega)) ?_
  refine tk (i := 2) rfl (by kernel_rfl) rfl (H.sub (by repeat (first | exact List.Sublist.refl _ | exact List.nil_sublist _ | apply List.Sublist.cons_cons | apply List.Sublist.cons))) (fun w' H => r_fa rfl fo49_2) ?_
  first | refine tk (i := 3) rfl (by kernel_rfl) rfl (H.sub (by repeat (first | exact List.Sublist.refl _ | exact List.nil_sublist _ | apply List.Sublist.cons_cons | apply List.Sublist.cons))) (fun w' H => r_ld H rfl sc28 rfl) ?_ | refine tk (i := 3) rfl (by kernel_rfl) rfl (H.sub (by repeat (first | exact List.Sublist.refl _ | exact List.nil_sublist _ | apply List.Sublist.cons_cons | apply List.Sublist.cons))) (fun w' H => r_lc rfl (by first | assumption | exact H.fr.cell (by assumption) (by simp)) sc28) ?_ | refine tk (i := 3) rfl (by kernel_rfl) rfl (H.sub (by repeat (first | exact List.Sublist.refl _ | exact List.nil_sublist _ | apply List.Sublist.cons_cons | apply List.Sublist.cons))) (fun w' H => r_ld H rfl sc28 (by assumption)) ?_
  refine fk (i := 4) (by kernel_rfl) rfl rfl rfl ?_
  refine cl ca43 (c_putLe _ _ _ _ _ _ _ _ H.look (by first | omega | ((try simp only [pAt_length, leB_len, gB_len, List.length_set, List.length_replicate]); omega)) (by omega)) rfl ?_
  rintro _ w9 ⟨rfl, hlen, F, hnew⟩
  replace H := H.put F hnew; clear F hnew
  refine nl ?_
  refine then_n ?_
  refine ⟨H.sub (by repeat (first | exact List.Sublist.refl _ | exact List.nil_sublist _ | apply List.Sublist.cons_cons | apply List.Sublist.cons)), ?_⟩
  refine da (by kernel_rfl) ?_
  refine then_n ?_
  refine sq ?_
  refine dr (by kernel_rfl) ?_   -- region 7
  have H := H.drew
  refine hold (fun w' => SH w [b] w' [⟨b3, .cells (Bs (gB p.gu)).toArray 45 (0, 0), true⟩, ⟨b2, .cells (Bs (gB p.ty)).toArray 45 (0, 0), true⟩, ⟨b1, .cells p.cells.toArray 49 (0, 0), true⟩]) [] ?_
  refine tk (i := 0) rfl (by kernel_rfl) rfl (H.sub (by repeat (first | exact List.Sublist.refl _ | exact List.nil_sublist _ | apply List.Sublist.cons_cons | apply List.Sublist.cons))) (fun w' H => r_mv (v := .slice _ _ _) rfl) ?_
  refine tk (i := 1) rfl (by kernel_rfl) rfl (H.sub (by repeat (first | exact List.Sublist.refl _ | exact List.nil_sublist _ | apply List.Sublist.cons_cons | apply List.Sublist.cons))) (fun w' H => r_sllhN (o + 48) (8) (c - 48) rfl rfl rfl Tryd.underlying30 sz5_1 (by omega) (by omega)) ?_
  refine tk (i := 2) rfl (by kernel_rfl) rfl (H.sub (by repeat (first | exact List.Sublist.refl _ | exact List.nil_sublist _ | apply List.Sublist.cons_cons | apply List.Sublist.cons))) (fun w' H => r_fa rfl fo49_7) ?_
  first | refine tk (i := 3) rfl (by kernel_rfl) rfl (H.sub (by repeat (first | exact List.Sublist.refl _ | exact List.nil_sublist _ | apply List.Sublist.cons_cons | apply List.Sublist.cons))) (fun w' H => r_ld H rfl sc28 rfl) ?_ | refine tk (i := 3) rfl (by kernel_rfl) rfl (H.sub (by repeat (first | exact List.Sublist.refl _ | exact List.nil_sublist _ | apply List.Sublist.cons_cons | apply List.Sublist.cons))) (fun w' H => r_lc rfl (by first | assumption | exact H.fr.cell (by assumption) (by simp)) sc28) ?_ | refine tk (i := 3) rfl (by kernel_rfl) rfl (H.sub (by repeat (first | exact List.Sublist.refl _ | exact List.nil_sublist _ | apply List.Sublist.cons_cons | apply List.Sublist.cons))) (fun w' H => r_ld H rfl sc28 (by assumption)) ?_
  refine fk (i := 4) (by kernel_rfl) rfl rfl rfl ?_
  refine cl ca43 (c_putLe _ _ _ _ _ _ _ _ H.look (by first | omega | ((try simp only [pAt_length, leB_len, gB_len, List.length_set, List.length_replicate]); omega)) (by omega)) rfl ?_
  rintro _ w10 ⟨rfl, hlen, F, hnew⟩
  replace H := H.put F hnew; clear F hnew
  refine nl ?_
  refine then_n ?_
  refine ⟨H.sub (by repeat (first | exact List.Sublist.refl _ | exact List.nil_sublist _ | apply List.Sublist.cons_cons | apply List.Sublist.cons)), ?_⟩
  refine da (by kernel_rfl) ?_
  refine then_n ?_
  refine sq ?_
  refine rg ?_
  refine fa rfl fo49_5 rfl ?_
  first | refine ld H rfl sc9 rfl rfl ?_ | refine lc rfl (by first | assumption | exact H.fr.cell (by assumption) (by simp)) sc9 rfl ?_ | refine ld H rfl sc9 (by assumption) rfl ?_
  refine cl ca40 (c_utf16 _ _ (by omega)) rfl ?_
  rintro _ w11 ⟨DU, capU, rfl, O⟩
  replace O := O.join H; clear H; have H := O.sh
  refine lnS rfl Tryd.underlying80 rfl ?_
  refine mv (v := .int .i64 _) rfl rfl ?_
  refine nl ?_
  refine then_n ?_
  refine bk ?_
  refine lpM (α := Nat) [8, 9, 48, 49, 50, 51, 52, 53, 54, 55, 56, 57, 58, 59, 60, 61, 62, 63, 64] (fun i => [(48, .int .i64 (i : Int))]) (fun i w' => i ≤ (utf16 p.nm).length ∧ OR 25 1 w [b] w' [⟨b3, .cells (Bs (gB p.gu)).toArray 45 (0, 0), true⟩, ⟨b2, .cells (Bs (gB p.ty)).toArray 45 (0, 0), true⟩, ⟨b1, .cells p.cells.toArray 49 (0, 0), true⟩, ⟨b, .cells (Bs (pAt cur o (entH p ++ ((utf16 p.nm).take i).flatMap (leB 2)))).toArray T (0, 0), true⟩] DU (utf16 p.nm).length capU ((utf16 p.nm).map (Value.int .u16))) (fun i => (utf16 p.nm).length - i) 0 ?_ (fC (by first | rfl | exact congrArg (Value.int _) (by first | omega | assumption | (symm; assumption) | (simp; done) | (simp; omega)) | exact congrArg (fun n => Value.slice _ n _) (by first | omega | (simp; done) | (simp; omega))) (fN _)) ?_   -- loop 1
  · exact ⟨by omega, by rw [ent_head (by omega)] at O; rw [List.take_zero, List.flatMap_nil, List.append_nil]; exact O⟩
  · rintro i ρx w12 ⟨hi, O⟩
    have H := O.sh
    have hel := entH_len p
    refine sq ?_
    refine rg ?_
    refine lss rfl rfl rfl ?_
    refine nl ?_
    refine then_n ?_
    refine sq ?_
    first | refine cd rfl (fun hc1 => ?_) (fun hc1 => ?_) | refine cn rfl (fun hc1 => ?_) (fun hc1 => ?_)   -- test 1
    · obtain ⟨u, hu⟩ : ∃ u, (utf16 p.nm)[i]? = some u := ⟨_, List.getElem?_eq_getElem (by omega)⟩
      have hur := utf16_rng _ _ (Nat.le_refl _) u (List.mem_of_getElem? hu)
      obtain ⟨ad, rfl⟩ := O.some_of (by omega)
      have hcell := O.one (v := .int .u16 u) (by rw [List.getElem?_map, hu]; rfl)
      refine sk ?_
      refine then_n ?_
      refine sq ?_
      refine bk ?_
      refine sq ?_
      refine rg ?_
      refine mv (v := .int .i64 _) rfl rfl ?_
      refine iBN (ad.add i) rfl rfl Tryd.underlying80 sz25_1 (by omega) (by simp) rfl ?_
      first | refine ld H rfl sc25 rfl rfl ?_ | refine lc rfl (by first | assumption | exact H.fr.cell (by assumption) (by simp)) sc25 rfl ?_ | refine ld H rfl sc25 (by assumption) rfl ?_
      refine asg (v := .int .i64 _) rfl rfl ?_
      refine asg (v := .int .u16 _) rfl rfl ?_
      refine nl ?_
      refine then_n ?_
      refine rg ?_
      refine mv (v := .slice _ _ _) rfl rfl ?_
      refine mv (v := .int .i64 _) rfl rfl ?_
      refine mul rfl rfl (by first | exact w_i64 (by omega) | exact w_i64 (rng_i64 _) | rfl) rfl ?_
      refine add rfl rfl (by first | exact w_i64 (by omega) | exact w_i64 (rng_i64 _) | rfl) rfl ?_
      refine mv (v := .int .i64 _) rfl rfl ?_
      refine mul rfl rfl (by first | exact w_i64 (by omega) | exact w_i64 (rng_i64 _) | rfl) rfl ?_
      refine add rfl rfl (by first | exact w_i64 (by omega) | exact w_i64 (rng_i64 _) | rfl) rfl ?_
      refine sllhN (o + (56 + 2 * i)) (2) (c - (56 + 2 * i)) rfl rfl rfl Tryd.underlying30 sz5_1 (by omega) (by omega) rfl ?_
      refine mv (v := .int .u16 _) rfl rfl ?_
      refine cvi rfl rfl Tryd.underlying28 (by first | exact w_u64 (by omega) | exact w_u64 (rng_u64 _) | exact m_u64 _) rfl ?_
      refine cl ca43 (c_putLe _ _ _ _ _ _ _ _ H.look (by (try simp only [pAt_length]); omega) (by omega)) rfl ?_
      rintro _ w13 ⟨rfl, hlen, F, hnew⟩
      replace H := H.put F hnew; replace O := O.put F hnew; clear F hnew
      refine nl ?_
      refine in_n ?_
      refine then_n ?_
      refine rg ?_
      refine add rfl rfl (by first | exact w_i64 (by omega) | exact w_i64 (rng_i64 _) | rfl) rfl ?_
      refine mv (v := .int .i64 _) rfl rfl ?_
      refine nl ?_
      refine loop_n ?_
      exact ⟨i + 1, (by (try dsimp only); omega), ⟨by omega, by rw [← ent_unit (by omega) h36 hu]; exact O⟩, (fC (by first | rfl | exact congrArg (Value.int _) (by first | omega | assumption | (symm; assumption) | (simp; done) | (simp; omega)) | exact congrArg (fun n => Value.slice _ n _) (by first | omega | (simp; done) | (simp; omega))) (fN _)), (by repeat (first | exact Agree.setL rfl Agree.mask | exact Agree.self _ _ | refine Agree.upd rfl ?_ | refine Agree.setL rfl ?_ | refine Agree.mask2 rfl ?_))⟩
    · refine ex ?_
      refine then_e ?_
      refine loop_e ?_
      refine in_hit rfl ?_
      refine fin_n ?_
      obtain rfl : i = (utf16 p.nm).length := by omega
      have e := O.sh.look (b := b)
      rw [List.take_length] at e
      exact ⟨rfl, pAt_len (by rw [entB_len]; omega), O.sh.fr, e⟩

end Go.Proofs.YthcaejaaalkglaaDoor.X
/- Walks of functions, printed by a program of this claim. -/
namespace Go.Proofs.YthcaejaaalkglaaDoor.X
set_option linter.unusedVariables false
set_option linter.unusedSimpArgs false
open Go Go.RowKit

namespace P6
theorem ag24_5 : aggB Tryd.prog 24 5 = true := by kernel_rfl
theorem ag45_16 : aggB Tryd.prog 45 16 = true := by kernel_rfl
theorem ag49_8 : aggB Tryd.prog 49 8 = true := by kernel_rfl
theorem bo57 : buildOK Tryd.prog 57 = true := by kernel_rfl
theorem bo59 : buildOK Tryd.prog 59 = true := by kernel_rfl
theorem bo60 : buildOK Tryd.prog 60 = true := by kernel_rfl
theorem ca20 : callable Tryd.prog 20 = true := by kernel_rfl
theorem ca21 : callable Tryd.prog 21 = true := by kernel_rfl
theorem ca26 : callable Tryd.prog 26 = true := by kernel_rfl
theorem ca27 : callable Tryd.prog 27 = true := by kernel_rfl
theorem ca28 : callable Tryd.prog 28 = true := by kernel_rfl
theorem ca42 : callable Tryd.prog 42 = true := by kernel_rfl
theorem ca43 : callable Tryd.prog 43 = true := by kernel_rfl
theorem ca44 : callable Tryd.prog 44 = true := by kernel_rfl
theorem fo24_0 : fieldOff Tryd.prog 24 0 = some 0 := by kernel_rfl
theorem fo24_1 : fieldOff Tryd.prog 24 1 = some 1 := by kernel_rfl
theorem fo24_2 : fieldOff Tryd.prog 24 2 = some 2 := by kernel_rfl
theorem fo24_3 : fieldOff Tryd.prog 24 3 = some 3 := by kernel_rfl
theorem fo49_0 : fieldOff Tryd.prog 49 0 = some 0 := by kernel_rfl
theorem mi5 : elemInfo Tryd.prog 5 = some (.int .u8 0, 1) := by kernel_rfl
theorem pl57_0 : placeOf Tryd.prog 57 0 = some (0, 1) := by kernel_rfl
theorem pl57_1 : placeOf Tryd.prog 57 1 = some (1, 1) := by kernel_rfl
theorem pl57_2 : placeOf Tryd.prog 57 2 = some (2, 1) := by kernel_rfl
theorem pl57_3 : placeOf Tryd.prog 57 3 = some (3, 1) := by kernel_rfl
theorem pl57_4 : placeOf Tryd.prog 57 4 = some (4, 1) := by kernel_rfl
theorem pl57_5 : placeOf Tryd.prog 57 5 = some (5, 1) := by kernel_rfl
theorem pl59_2 : placeOf Tryd.prog 59 2 = some (2, 1) := by kernel_rfl
theorem pl59_3 : placeOf Tryd.prog 59 3 = some (3, 1) := by kernel_rfl
theorem pl59_4 : placeOf Tryd.prog 59 4 = some (4, 1) := by kernel_rfl
theorem pl59_5 : placeOf Tryd.prog 59 5 = some (5, 6) := by kernel_rfl
theorem pl60_0 : placeOf Tryd.prog 60 0 = some (0, 11) := by kernel_rfl
theorem sc22 : scalarB Tryd.prog 22 = true := by kernel_rfl
theorem sc3 : scalarB Tryd.prog 3 = true := by kernel_rfl
theorem sc4 : scalarB Tryd.prog 4 = true := by kernel_rfl
theorem sc9 : scalarB Tryd.prog 9 = true := by kernel_rfl
theorem sz49_8 : sizeB Tryd.prog 49 8 = true := by kernel_rfl
theorem sz5_1 : sizeB Tryd.prog 5 1 = true := by kernel_rfl
theorem ze45 : zeroL Tryd.prog 45 = some [.int .u8 0, .int .u8 0, .int .u8 0, .int .u8 0, .int .u8 0, .int .u8 0, .int .u8 0, .int .u8 0, .int .u8 0, .int .u8 0, .int .u8 0, .int .u8 0, .int .u8 0, .int .u8 0, .int .u8 0, .int .u8 0] := by kernel_rfl
theorem ze49 : zeroL Tryd.prog 49 = some [.int .i64 0, .int .u64 0, .int .u64 0, .int .u64 0, .string ⟨#[]⟩, .string ⟨#[]⟩, .string ⟨#[]⟩, .int .u64 0] := by kernel_rfl
theorem ze57 : zeroL Tryd.prog 57 = some [.int .u8 0, .int .u8 0, .int .u8 0, .int .u8 0, .int .u8 0, .int .u8 0] := by kernel_rfl
theorem ze59 : zeroL Tryd.prog 59 = some [.int .i64 0, .bool false, .int .u8 0, .int .u32 0, .int .u32 0, .int .u8 0, .int .u8 0, .int .u8 0, .int .u8 0, .int .u8 0, .int .u8 0] := by kernel_rfl
theorem ze60 : zeroL Tryd.prog 60 = some [.int .i64 0, .bool false, .int .u8 0, .int .u32 0, .int .u32 0, .int .u8 0, .int .u8 0, .int .u8 0, .int .u8 0, .int .u8 0, .int .u8 0, .int .i64 0, .bool false, .int .u8 0, .int .u32 0, .int .u32 0, .int .u8 0, .int .u8 0, .int .u8 0, .int .u8 0, .int .u8 0, .int .u8 0, .int .i64 0, .bool false, .int .u8 0, .int .u32 0, .int .u32 0, .int .u8 0, .int .u8 0, .int .u8 0, .int .u8 0, .int .u8 0, .int .u8 0, .int .i64 0, .bool false, .int .u8 0, .int .u32 0, .int .u32 0, .int .u8 0, .int .u8 0, .int .u8 0, .int .u8 0, .int .u8 0, .int .u8 0] := by kernel_rfl

end P6
open P6

set_option maxRecDepth 100000 in
set_option maxHeartbeats 1000000 in
theorem c_gptArray (w : World) (D : Option Addr) (m c : Nat) (gu : List UInt8) (pr rc : Bool) (ps : List GP) (hq : RG w D m c ps) (hm : m ≤ 200) (hf : ∀ p ∈ ps, p.fit ∧ p.fits) : Calls Tryd.prog 26 #[.agg (gtCells D m c 512 gu pr rc).toArray] w (Ret fun v w' => ∃ b, v = .slice (some ⟨b, 0, none⟩) 16384 16384 ∧ w.heap.size ≤ b ∧ w'.heap[b]? = some (.cells (Bs (arrB ps)).toArray 5 (0, 0)) ∧ Fr [] w w') := by
  refine enter (fun ρ => ρ 2) Tryd.func26 rfl rfl rfl (res1 rfl) ?_
  have H := SH.nil w
  have hql := hq.len
  refine sq ?_
  refine rg ?_
  refine bx (v := .agg _) H rfl rfl rfl ?_
  clear H; intro b1 w1 hb1 H _
  refine asg (v := .slice _ _ _) rfl rfl ?_
  refine nl ?_
  refine then_n ?_
  refine sq ?_
  refine rg ?_
  refine mkB H rfl rfl Tryd.underlying30 mi5 (by omega) (by omega) (by omega) (by omega) rfl ?_
  clear H; intro b2 w2 hb2 H _
  refine asg (v := .slice _ _ _) rfl rfl ?_
  refine nl ?_
  refine then_n ?_
  refine sq ?_
  refine sq ?_
  refine rg ?_
  refine fa rfl fo24_0 rfl ?_
  first | refine ld H rfl sc22 rfl rfl ?_ | refine lc rfl (by first | assumption | exact H.fr.cell (by assumption) (by simp)) sc22 rfl ?_ | refine ld H rfl sc22 (by assumption) rfl ?_
  refine lnS rfl Tryd.underlying22 rfl ?_
  refine mv (v := .int .i64 _) rfl rfl ?_
  refine nl ?_
  refine then_n ?_
  refine bk ?_
  refine lpM (α := Nat) [5, 10, 11, 12, 13, 14, 15, 16, 17, 18, 19, 20, 21, 22, 23, 24, 25, 26, 27, 28, 29, 30, 31, 32, 33] (fun i => [(10, .int .i64 (i : Int))]) (fun i w' => i ≤ m ∧ SH w [] w' [⟨b2, .cells (Bs ((ps.take i).foldl arrP (List.replicate 16384 0))).toArray 5 (0, 0), true⟩, ⟨b1, .cells (gtCells D m c 512 gu pr rc).toArray 24 (0, 0), true⟩]) (fun i => m - i) 0 ?_ (fC (by first | rfl | exact congrArg (Value.int _) (by first | omega | assumption | (symm; assumption) | (simp; done) | (simp; omega)) | exact congrArg (fun n => Value.slice _ n _) (by first | omega | (simp; done) | (simp; omega))) (fN _)) ?_   -- loop 1
  · exact ⟨by omega, H⟩
  · rintro i ρx w3 ⟨hi, H⟩
    refine sq ?_
    refine rg ?_
    refine lss rfl rfl rfl ?_
    refine nl ?_
    refine then_n ?_
    refine sq ?_
    first | refine cd rfl (fun hc1 => ?_) (fun hc1 => ?_) | refine cn rfl (fun hc1 => ?_) (fun hc1 => ?_)   -- test 1
    · obtain ⟨p, hpi⟩ : ∃ p, ps[i]? = some p := ⟨_, List.getElem?_eq_getElem (by omega)⟩
      obtain ⟨ad, rfl⟩ := hq.some_of (by omega)
      have hpo := hq.ok p (List.mem_of_getElem? hpi)
      obtain ⟨hpf, hp1, hp2, hp36⟩ := hf p (List.mem_of_getElem? hpi)
      have hal : ((ps.take i).foldl arrP (List.replicate 16384 0)).length = 16384 := foldl_arr_len _ _ List.length_replicate fun q hq => (hf q (List.mem_of_mem_take hq)).2
      refine sk ?_
      refine then_n ?_
      refine sq ?_
      refine bk ?_
      refine sq ?_
      refine rg ?_
      refine iBN (ad.add (i * 8)) rfl rfl Tryd.underlying22 sz49_8 (by omega) (by simp) rfl ?_
      refine lw (vs := p.cells) rfl ag49_8 rfl (fun j v h => H.fr.cell (hq.elem hpi j v h) (by simp)) rfl ?_
      refine al H ze49 rfl ?_
      clear H; intro b3 w4 hb3 H _
      refine sa (cs' := p.cells) H rfl rfl ag49_8 rfl rfl (by decide) (by omega) rfl ?_
      clear H; intro w35 H _
      refine nl ?_
      refine then_n ?_
      refine sq ?_
      refine rg ?_
      refine fa rfl fo49_0 rfl ?_
      first | refine ld H rfl sc3 rfl rfl ?_ | refine lc rfl (by first | assumption | exact H.fr.cell (by assumption) (by simp)) sc3 rfl ?_ | refine ld H rfl sc3 (by assumption) rfl ?_
      refine geq rfl rfl rfl ?_
      refine mv (v := .bool _) rfl rfl ?_
      first | refine spL (t := 17) (b := true) rfl ?_ | refine spT (t := 17) rfl (by omega) ?_   -- guard 1
      refine gy rfl ?_
      refine fa rfl fo49_0 rfl ?_
      refine gy rfl ?_
      first | refine ld H rfl sc3 rfl rfl ?_ | refine lc rfl (by first | assumption | exact H.fr.cell (by assumption) (by simp)) sc3 rfl ?_ | refine ld H rfl sc3 (by assumption) rfl ?_
      refine gy rfl ?_
      refine leq rfl rfl rfl ?_
      refine pkT (v := .bool _) rfl rfl rfl ?_
      refine nl ?_
      refine then_n ?_
      first | refine cT rfl (by omega) ?_ | refine cbT rfl (by omega) ?_   -- test 2
      refine dr (by kernel_rfl) ?_   -- region 6
      have H := H.drew
      refine hold (fun w' => SH w [] w' [⟨b3, .cells p.cells.toArray 49 (0, 0), true⟩]) [] ?_
      refine tk (i := 0) rfl (by kernel_rfl) rfl (H.sub (by repeat (first | exact List.Sublist.refl _ | exact List.nil_sublist _ | apply List.Sublist.cons_cons | apply List.Sublist.cons))) (fun w' H => r_mv (v := .slice _ _ _) rfl) ?_
      refine tk (i := 1) rfl (by kernel_rfl) rfl (H.sub (by repeat (first | exact List.Sublist.refl _ | exact List.nil_sublist _ | apply List.Sublist.cons_cons | apply List.Sublist.cons))) (fun w' H => r_fa rfl fo49_0) ?_
      first | refine tk (i := 2) rfl (by kernel_rfl) rfl (H.sub (by repeat (first | exact List.Sublist.refl _ | exact List.nil_sublist _ | apply List.Sublist.cons_cons | apply List.Sublist.cons))) (fun w' H => r_ld H rfl sc3 rfl) ?_ | refine tk (i := 2) rfl (by kernel_rfl) rfl (H.sub (by repeat (first | exact List.Sublist.refl _ | exact List.nil_sublist _ | apply List.Sublist.cons_cons | apply List.Sublist.cons))) (fun w' H => r_lc rfl (by first | assumption | exact H.fr.cell (by assumption) (by simp)) sc3) ?_ | refine tk (i := 2) rfl (by kernel_rfl) rfl (H.sub (by repeat (first | exact List.Sublist.refl _ | exact List.nil_sublist _ | apply List.Sublist.cons_cons | apply List.Sublist.cons))) (fun w' H => r_ld H rfl sc3 (by assumption)) ?_
      refine tk (i := 3) rfl (by kernel_rfl) rfl (H.sub (by repeat (first | exact List.Sublist.refl _ | exact List.nil_sublist _ | apply List.Sublist.cons_cons | apply List.Sublist.cons))) (fun w' H => r_sub rfl rfl (by first | exact w_i64 (by omega) | exact w_i64 (rng_i64 _) | rfl)) ?_
      refine tk (i := 4) rfl (by kernel_rfl) rfl (H.sub (by repeat (first | exact List.Sublist.refl _ | exact List.nil_sublist _ | apply List.Sublist.cons_cons | apply List.Sublist.cons))) (fun w' H => r_mul rfl rfl (by first | exact w_i64 (by omega) | exact w_i64 (rng_i64 _) | rfl)) ?_
      refine tk (i := 5) rfl (by kernel_rfl) rfl (H.sub (by repeat (first | exact List.Sublist.refl _ | exact List.nil_sublist _ | apply List.Sublist.cons_cons | apply List.Sublist.cons))) (fun w' H => r_fa rfl fo49_0) ?_
      first | refine tk (i := 6) rfl (by kernel_rfl) rfl (H.sub (by repeat (first | exact List.Sublist.refl _ | exact List.nil_sublist _ | apply List.Sublist.cons_cons | apply List.Sublist.cons))) (fun w' H => r_ld H rfl sc3 rfl) ?_ | refine tk (i := 6) rfl (by kernel_rfl) rfl (H.sub (by repeat (first | exact List.Sublist.refl _ | exact List.nil_sublist _ | apply List.Sublist.cons_cons | apply List.Sublist.cons))) (fun w' H => r_lc rfl (by first | assumption | exact H.fr.cell (by assumption) (by simp)) sc3) ?_ | refine tk (i := 6) rfl (by kernel_rfl) rfl (H.sub (by repeat (first | exact List.Sublist.refl _ | exact List.nil_sublist _ | apply List.Sublist.cons_cons | apply List.Sublist.cons))) (fun w' H => r_ld H rfl sc3 (by assumption)) ?_
      refine tk (i := 7) rfl (by kernel_rfl) rfl (H.sub (by repeat (first | exact List.Sublist.refl _ | exact List.nil_sublist _ | apply List.Sublist.cons_cons | apply List.Sublist.cons))) (fun w' H => r_mul rfl rfl (by first | exact w_i64 (by omega) | exact w_i64 (rng_i64 _) | rfl)) ?_
      refine tk (i := 8) rfl (by kernel_rfl) rfl (H.sub (by repeat (first | exact List.Sublist.refl _ | exact List.nil_sublist _ | apply List.Sublist.cons_cons | apply List.Sublist.cons))) (fun w' H => r_sllhN (128 * (p.ix - 1).toNat) (128) (16384 - 128 * (p.ix - 1).toNat) rfl rfl rfl Tryd.underlying30 sz5_1 (by omega) (by omega)) ?_
      refine tk (i := 9) rfl (by kernel_rfl) rfl (H.sub (by repeat (first | exact List.Sublist.refl _ | exact List.nil_sublist _ | apply List.Sublist.cons_cons | apply List.Sublist.cons))) (fun w' H => r_la (vs := p.cells) H rfl ag49_8 rfl rfl) ?_
      refine fk (i := 10) (by kernel_rfl) rfl rfl rfl ?_
      refine cl ca42 (c_gptEntry _ b2 _ 128 _ _ _ p (H.look (b := b2)) rfl (by omega) (by omega) hpo hpf hp36) rfl ?_
      rintro _ w5 ⟨rfl, hlen, F, hnew⟩
      replace H := H.put (b := b2) F hnew; clear F hnew
      refine nl ?_
      refine then_n ?_
      refine ⟨H.sub (by repeat (first | exact List.Sublist.refl _ | exact List.nil_sublist _ | apply List.Sublist.cons_cons | apply List.Sublist.cons)), ?_⟩
      refine da (by kernel_rfl) ?_
      refine in_n ?_
      refine then_n ?_
      refine rg ?_
      refine add rfl rfl (by first | exact w_i64 (by omega) | exact w_i64 (rng_i64 _) | rfl) rfl ?_
      refine mv (v := .int .i64 _) rfl rfl ?_
      refine nl ?_
      refine loop_n ?_
      exact ⟨i + 1, (by (try dsimp only); omega), ⟨by omega, by rw [arr_take hpi]; exact H.sub (by repeat (first | exact List.Sublist.refl _ | exact List.nil_sublist _ | apply List.Sublist.cons_cons | apply List.Sublist.cons))⟩, (fC (by first | rfl | exact congrArg (Value.int _) (by first | omega | assumption | (symm; assumption) | (simp; done) | (simp; omega)) | exact congrArg (fun n => Value.slice _ n _) (by first | omega | (simp; done) | (simp; omega))) (fN _)), (by repeat (first | exact Agree.setL rfl Agree.mask | exact Agree.self _ _ | refine Agree.upd rfl ?_ | refine Agree.setL rfl ?_ | refine Agree.mask2 rfl ?_))⟩
    · refine ex ?_
      refine then_e ?_
      refine loop_e ?_
      refine in_hit rfl ?_
      refine then_n ?_
      refine sq ?_
      refine rg ?_
      refine mv (v := .slice _ _ _) rfl rfl ?_
      refine asg (v := .slice _ _ _) rfl rfl ?_
      refine nl ?_
      refine then_n ?_
      refine rt ?_
      refine fin_r ?_
      obtain rfl : i = m := by omega
      have e := H.look (b := b2)
      rw [List.take_of_length_le (by omega)] at e
      exact ⟨_, rfl, H.ge, e, H.fr⟩

set_option maxRecDepth 100000 in
set_option maxHeartbeats 1000000 in
theorem c_tabSectors (w : World)  : Calls Tryd.prog 20 #[.int .i64 512] w (Ret fun v w' => v = .int .u64 32 ∧ Fr [] w w') := by
  refine enter (fun ρ => ρ 2) Tryd.func20 rfl rfl rfl (res1 rfl) ?_
  have H := SH.nil w
  refine sq ?_
  refine rg ?_
  refine asg (v := .int .u64 _) rfl rfl ?_
  refine nl ?_
  refine then_n ?_
  refine sq ?_
  refine rg ?_
  refine mv (v := .int .i64 _) rfl rfl ?_
  refine add rfl rfl (by first | exact w_i64 (by omega) | exact w_i64 (rng_i64 _) | rfl) rfl ?_
  refine sub rfl rfl (by first | exact w_i64 (by omega) | exact w_i64 (rng_i64 _) | rfl) rfl ?_
  refine mv (v := .int .i64 _) rfl rfl ?_
  refine quo rfl rfl (by omega) (by omega) (by first | exact w_i64 (by omega) | exact w_i64 (rng_i64 _) | rfl) rfl ?_
  refine cvi rfl rfl Tryd.underlying28 (by first | exact w_u64 (by omega) | exact w_u64 (rng_u64 _) | exact m_u64 _) rfl ?_
  refine asg (v := .int .u64 _) rfl rfl ?_
  refine nl ?_
  refine then_n ?_
  refine rt ?_
  refine fin_r ?_
  exact ⟨rfl, H.fr⟩

set_option maxRecDepth 100000 in
set_option maxHeartbeats 1000000 in
theorem c_gptHeader (w : World) (D : Option Addr) (m c : Nat) (gu : List UInt8) (pr rc : Bool) (a o e n : Int) (B : Option Addr) (k kc : Nat) (arr : List UInt8) (hA : RB w B k arr) (hk : k ≤ 1000000) (ha : 0 ≤ a ∧ a ≤ 1000000000) (ho : 0 ≤ o ∧ o ≤ 1000000000) (he : 0 ≤ e ∧ e ≤ 1000000000) (hn : 34 ≤ n ∧ n ≤ 1000000000) : Calls Tryd.prog 28 #[.agg (gtCells D m c 512 gu pr rc).toArray, .int .u64 a, .int .u64 o, .int .u64 e, .int .u64 n, .slice B k kc] w (Ret fun v w' => ∃ b, v = .slice (some ⟨b, 0, none⟩) 512 512 ∧ w.heap.size ≤ b ∧ w'.heap[b]? = some (.cells (Bs (hdrB a o e n (gB gu) (crc32 arr))).toArray 5 (0, 0)) ∧ Fr [] w w') := by
  refine enter (fun ρ => ρ 12) Tryd.func28 rfl rfl rfl (res1 rfl) ?_
  have H := SH.nil w
  have hcr := crc32_rng arr
  refine sq ?_
  refine rg ?_
  refine bx (v := .agg _) H rfl rfl rfl ?_
  clear H; intro b1 w1 hb1 H _
  refine asg (v := .slice _ _ _) rfl rfl ?_
  refine nl ?_
  refine then_n ?_
  refine sq ?_
  refine rg ?_
  refine fa rfl fo24_1 rfl ?_
  first | refine ld H rfl sc3 rfl rfl ?_ | refine lc rfl (by first | assumption | exact H.fr.cell (by assumption) (by simp)) sc3 rfl ?_ | refine ld H rfl sc3 (by assumption) rfl ?_
  refine mkB H rfl rfl Tryd.underlying30 mi5 (by omega) (by omega) (by omega) (by omega) rfl ?_
  clear H; intro b2 w2 hb2 H _
  refine asg (v := .slice _ _ _) rfl rfl ?_
  refine nl ?_
  refine then_n ?_
  refine sq ?_
  refine rg ?_
  have hl0 : (List.replicate (512 : Int).toNat (0 : UInt8)).length = 512 := List.length_replicate
  refine mv (v := .slice _ _ _) rfl rfl ?_
  refine cpT (bs := efiL) H rfl rfl Tryd.underlying30 sz5_1 (by decide) (by omega) (by omega) rfl ?_
  clear H; intro w3 H _ hlen
  refine nl ?_
  refine then_n ?_
  refine sq ?_
  refine rg ?_
  refine mv (v := .slice _ _ _) rfl rfl ?_
  refine sllhN (8) (4) (504) rfl rfl rfl Tryd.underlying30 sz5_1 (by omega) (by omega) rfl ?_
  refine cl ca43 (c_putLe _ _ _ _ _ _ _ _ H.look (by first | omega | ((try simp only [pAt_length, leB_len, gB_len, List.length_set, List.length_replicate]); omega)) (by omega)) rfl ?_
  rintro _ w4 ⟨rfl, hlen, F, hnew⟩
  replace H := H.put F hnew; clear F hnew
  refine nl ?_
  refine then_n ?_
  refine sq ?_
  refine rg ?_
  refine mv (v := .slice _ _ _) rfl rfl ?_
  refine sllhN (12) (4) (500) rfl rfl rfl Tryd.underlying30 sz5_1 (by omega) (by omega) rfl ?_
  refine cl ca43 (c_putLe _ _ _ _ _ _ _ _ H.look (by first | omega | ((try simp only [pAt_length, leB_len, gB_len, List.length_set, List.length_replicate]); omega)) (by omega)) rfl ?_
  rintro _ w5 ⟨rfl, hlen, F, hnew⟩
  replace H := H.put F hnew; clear F hnew
  refine nl ?_
  refine then_n ?_
  refine sq ?_
  refine rg ?_
  refine mv (v := .slice _ _ _) rfl rfl ?_
  refine sllhN (24) (8) (488) rfl rfl rfl Tryd.underlying30 sz5_1 (by omega) (by omega) rfl ?_
  refine mv (v := .int .u64 _) rfl rfl ?_
  refine cl ca43 (c_putLe _ _ _ _ _ _ _ _ H.look (by first | omega | ((try simp only [pAt_length, leB_len, gB_len, List.length_set, List.length_replicate]); omega)) (by omega)) rfl ?_
  rintro _ w6 ⟨rfl, hlen, F, hnew⟩
  replace H := H.put F hnew; clear F hnew
  refine nl ?_
  refine then_n ?_
  refine sq ?_
  refine rg ?_
  refine mv (v := .slice _ _ _) rfl rfl ?_
  refine sllhN (32) (8) (480) rfl rfl rfl Tryd.underlying30 sz5_1 (by omega) (by omega) rfl ?_
  refine mv (v := .int .u64 _) rfl rfl ?_
  refine cl ca43 (c_putLe _ _ _ _ _ _ _ _ H.look (by first | omega | ((try simp only [pAt_length, leB_len, gB_len, List.length_set, List.length_replicate]); omega)) (by omega)) rfl ?_
  rintro _ w7 ⟨rfl, hlen, F, hnew⟩
  replace H := H.put F hnew; clear F hnew
  refine nl ?_
  refine then_n ?_
  refine sq ?_
  refine dr (by kernel_rfl) ?_   -- region 7
  have H := H.drew
  refine hold (fun w' => SH w [] w' [⟨b1, .cells (gtCells D m c 512 gu pr rc).toArray 24 (0, 0), true⟩]) [] ?_
  refine tk (i := 0) rfl (by kernel_rfl) rfl (H.sub (by repeat (first | exact List.Sublist.refl _ | exact List.nil_sublist _ | apply List.Sublist.cons_cons | apply List.Sublist.cons))) (fun w' H => r_mv (v := .slice _ _ _) rfl) ?_
  refine tk (i := 1) rfl (by kernel_rfl) rfl (H.sub (by repeat (first | exact List.Sublist.refl _ | exact List.nil_sublist _ | apply List.Sublist.cons_cons | apply List.Sublist.cons))) (fun w' H => r_sllhN (40) (8) (472) rfl rfl rfl Tryd.underlying30 sz5_1 (by omega) (by omega)) ?_
  refine tk (i := 2) rfl (by kernel_rfl) rfl (H.sub (by repeat (first | exact List.Sublist.refl _ | exact List.nil_sublist _ | apply List.Sublist.cons_cons | apply List.Sublist.cons))) (fun w' H => r_fa rfl fo24_1) ?_
  first | refine tk (i := 3) rfl (by kernel_rfl) rfl (H.sub (by repeat (first | exact List.Sublist.refl _ | exact List.nil_sublist _ | apply List.Sublist.cons_cons | apply List.Sublist.cons))) (fun w' H => r_ld H rfl sc3 rfl) ?_ | refine tk (i := 3) rfl (by kernel_rfl) rfl (H.sub (by repeat (first | exact List.Sublist.refl _ | exact List.nil_sublist _ | apply List.Sublist.cons_cons | apply List.Sublist.cons))) (fun w' H => r_lc rfl (by first | assumption | exact H.fr.cell (by assumption) (by simp)) sc3) ?_ | refine tk (i := 3) rfl (by kernel_rfl) rfl (H.sub (by repeat (first | exact List.Sublist.refl _ | exact List.nil_sublist _ | apply List.Sublist.cons_cons | apply List.Sublist.cons))) (fun w' H => r_ld H rfl sc3 (by assumption)) ?_
  refine fk (i := 4) (by kernel_rfl) rfl rfl rfl ?_
  refine cl ca20 (c_tabSectors _) rfl ?_
  rintro _ w8 ⟨rfl, F⟩
  replace H := H.keep F; clear F
  refine nl ?_
  refine then_n ?_
  refine ⟨H.sub (by repeat (first | exact List.Sublist.refl _ | exact List.nil_sublist _ | apply List.Sublist.cons_cons | apply List.Sublist.cons)), ?_⟩
  refine tk (i := 5) rfl (by kernel_rfl) rfl (H.sub (by repeat (first | exact List.Sublist.refl _ | exact List.nil_sublist _ | apply List.Sublist.cons_cons | apply List.Sublist.cons))) (fun w' H => r_add (c := 34) rfl rfl (by decide)) ?_
  refine fk (i := 6) (by kernel_rfl) rfl rfl rfl ?_
  refine cl ca43 (c_putLe _ _ _ _ _ _ _ _ H.look (by first | omega | ((try simp only [pAt_length, leB_len, gB_len, List.length_set, List.length_replicate]); omega)) (by omega)) rfl ?_
  rintro _ w9 ⟨rfl, hlen, F, hnew⟩
  replace H := H.put F hnew; clear F hnew
  refine nl ?_
  refine then_n ?_
  refine ⟨H.sub (by repeat (first | exact List.Sublist.refl _ | exact List.nil_sublist _ | apply List.Sublist.cons_cons | apply List.Sublist.cons)), ?_⟩
  refine da (by kernel_rfl) ?_
  refine then_n ?_
  refine sq ?_
  refine dr (by kernel_rfl) ?_   -- region 8
  have H := H.drew
  refine hold (fun w' => SH w [] w' [⟨b1, .cells (gtCells D m c 512 gu pr rc).toArray 24 (0, 0), true⟩]) [] ?_
  refine tk (i := 0) rfl (by kernel_rfl) rfl (H.sub (by repeat (first | exact List.Sublist.refl _ | exact List.nil_sublist _ | apply List.Sublist.cons_cons | apply List.Sublist.cons))) (fun w' H => r_mv (v := .slice _ _ _) rfl) ?_
  refine tk (i := 1) rfl (by kernel_rfl) rfl (H.sub (by repeat (first | exact List.Sublist.refl _ | exact List.nil_sublist _ | apply List.Sublist.cons_cons | apply List.Sublist.cons))) (fun w' H => r_sllhN (48) (8) (464) rfl rfl rfl Tryd.underlying30 sz5_1 (by omega) (by omega)) ?_
  refine tk (i := 2) rfl (by kernel_rfl) rfl (H.sub (by repeat (first | exact List.Sublist.refl _ | exact List.nil_sublist _ | apply List.Sublist.cons_cons | apply List.Sublist.cons))) (fun w' H => r_mv (v := .int .u64 _) rfl) ?_
  refine tk (i := 3) rfl (by kernel_rfl) rfl (H.sub (by repeat (first | exact List.Sublist.refl _ | exact List.nil_sublist _ | apply List.Sublist.cons_cons | apply List.Sublist.cons))) (fun w' H => r_sub rfl rfl (by first | exact w_u64 (by omega) | exact w_u64 (rng_u64 _) | exact m_u64 _)) ?_
  refine tk (i := 4) rfl (by kernel_rfl) rfl (H.sub (by repeat (first | exact List.Sublist.refl _ | exact List.nil_sublist _ | apply List.Sublist.cons_cons | apply List.Sublist.cons))) (fun w' H => r_fa rfl fo24_1) ?_
  first | refine tk (i := 5) rfl (by kernel_rfl) rfl (H.sub (by repeat (first | exact List.Sublist.refl _ | exact List.nil_sublist _ | apply List.Sublist.cons_cons | apply List.Sublist.cons))) (fun w' H => r_ld H rfl sc3 rfl) ?_ | refine tk (i := 5) rfl (by kernel_rfl) rfl (H.sub (by repeat (first | exact List.Sublist.refl _ | exact List.nil_sublist _ | apply List.Sublist.cons_cons | apply List.Sublist.cons))) (fun w' H => r_lc rfl (by first | assumption | exact H.fr.cell (by assumption) (by simp)) sc3) ?_ | refine tk (i := 5) rfl (by kernel_rfl) rfl (H.sub (by repeat (first | exact List.Sublist.refl _ | exact List.nil_sublist _ | apply List.Sublist.cons_cons | apply List.Sublist.cons))) (fun w' H => r_ld H rfl sc3 (by assumption)) ?_
  refine fk (i := 6) (by kernel_rfl) rfl rfl rfl ?_
  refine cl ca20 (c_tabSectors _) rfl ?_
  rintro _ w10 ⟨rfl, F⟩
  replace H := H.keep F; clear F
  refine nl ?_
  refine then_n ?_
  refine ⟨H.sub (by repeat (first | exact List.Sublist.refl _ | exact List.nil_sublist _ | apply List.Sublist.cons_cons | apply List.Sublist.cons)), ?_⟩
  refine tk (i := 7) rfl (by kernel_rfl) rfl (H.sub (by repeat (first | exact List.Sublist.refl _ | exact List.nil_sublist _ | apply List.Sublist.cons_cons | apply List.Sublist.cons))) (fun w' H => r_sub (c := n - 34) rfl rfl (by rw [w_u64 (by omega)]; omega)) ?_
  refine fk (i := 8) (by kernel_rfl) rfl rfl rfl ?_
  refine cl ca43 (c_putLe _ _ _ _ _ _ _ _ H.look (by first | omega | ((try simp only [pAt_length, leB_len, gB_len, List.length_set, List.length_replicate]); omega)) (by omega)) rfl ?_
  rintro _ w11 ⟨rfl, hlen, F, hnew⟩
  replace H := H.put F hnew; clear F hnew
  refine nl ?_
  refine then_n ?_
  refine ⟨H.sub (by repeat (first | exact List.Sublist.refl _ | exact List.nil_sublist _ | apply List.Sublist.cons_cons | apply List.Sublist.cons)), ?_⟩
  refine da (by kernel_rfl) ?_
  refine then_n ?_
  refine sq ?_
  refine rg ?_
  refine fa rfl fo24_2 rfl ?_
  first | refine ld H rfl sc9 rfl rfl ?_ | refine lc rfl (by first | assumption | exact H.fr.cell (by assumption) (by simp)) sc9 rfl ?_ | refine ld H rfl sc9 (by assumption) rfl ?_
  refine cl ca21 (c_guidBytes _ _) rfl ?_
  rintro _ w12 ⟨rfl, F⟩
  replace H := H.keep F; clear F
  refine mv (v := .tuple _) rfl rfl ?_
  refine xt rfl rfl rfl ?_
  refine xt rfl rfl rfl ?_
  refine al H ze45 rfl ?_
  clear H; intro b3 w13 hb3 H _
  refine sa (cs' := Bs (gB gu)) H rfl rfl ag45_16 (by rw [Bs_length, gB_len]) (List.all_eq_true.2 Bs_one) (by decide) (by omega) (List.append_nil _) ?_
  clear H; intro w91 H _
  refine asg (v := .bool _) rfl rfl ?_
  refine nl ?_
  refine then_n ?_
  refine sq ?_
  refine dr (by kernel_rfl) ?_   -- region 10
  have H := H.drew
  refine hold (fun w' => SH w [] w' [⟨b1, .cells (gtCells D m c 512 gu pr rc).toArray 24 (0, 0), true⟩]) [] ?_
  refine tk (i := 0) rfl (by kernel_rfl) rfl (H.sub (by repeat (first | exact List.Sublist.refl _ | exact List.nil_sublist _ | apply List.Sublist.cons_cons | apply List.Sublist.cons))) (fun w' H => r_mv (v := .slice _ _ _) rfl) ?_
  refine tk (i := 1) rfl (by kernel_rfl) rfl (H.sub (by repeat (first | exact List.Sublist.refl _ | exact List.nil_sublist _ | apply List.Sublist.cons_cons | apply List.Sublist.cons))) (fun w' H => r_sllhN (56) (16) (456) rfl rfl rfl Tryd.underlying30 sz5_1 (by omega) (by omega)) ?_
  refine tk (i := 2) rfl (by kernel_rfl) rfl (H.sub (by repeat (first | exact List.Sublist.refl _ | exact List.nil_sublist _ | apply List.Sublist.cons_cons | apply List.Sublist.cons))) (fun w' H => r_slY rfl Tryd.underlying45 sz5_1 (by first | trivial | omega | (simp; omega))) ?_
  refine fk (i := 3) (by kernel_rfl) rfl rfl rfl ?_
  refine cpP (bs := gB gu) H rfl rfl Tryd.underlying30 sz5_1 (RB.allm H (gB_len gu)) (by omega) (by first | omega | ((try simp only [pAt_length, leB_len, gB_len, List.length_set, List.length_replicate]); omega)) (by omega) rfl ?_
  clear H; intro w14 H _ hlen
  refine nl ?_
  refine then_n ?_
  refine ⟨H.sub (by repeat (first | exact List.Sublist.refl _ | exact List.nil_sublist _ | apply List.Sublist.cons_cons | apply List.Sublist.cons)), ?_⟩
  refine da (by kernel_rfl) ?_
  refine then_n ?_
  refine sq ?_
  refine rg ?_
  refine mv (v := .slice _ _ _) rfl rfl ?_
  refine sllhN (72) (8) (440) rfl rfl rfl Tryd.underlying30 sz5_1 (by omega) (by omega) rfl ?_
  refine mv (v := .int .u64 _) rfl rfl ?_
  refine cl ca43 (c_putLe _ _ _ _ _ _ _ _ H.look (by first | omega | ((try simp only [pAt_length, leB_len, gB_len, List.length_set, List.length_replicate]); omega)) (by omega)) rfl ?_
  rintro _ w15 ⟨rfl, hlen, F, hnew⟩
  replace H := H.put F hnew; clear F hnew
  refine nl ?_
  refine then_n ?_
  refine sq ?_
  refine rg ?_
  refine mv (v := .slice _ _ _) rfl rfl ?_
  refine sllhN (80) (4) (432) rfl rfl rfl Tryd.underlying30 sz5_1 (by omega) (by omega) rfl ?_
  refine cl ca43 (c_putLe _ _ _ _ _ _ _ _ H.look (by first | omega | ((try simp only [pAt_length, leB_len, gB_len, List.length_set, List.length_replicate]); omega)) (by omega)) rfl ?_
  rintro _ w16 ⟨rfl, hlen, F, hnew⟩
  replace H := H.put F hnew; clear F hnew
  refine nl ?_
  refine then_n ?_
  refine sq ?_
  refine rg ?_
  refine mv (v := .slice _ _ _) rfl rfl ?_
  refine sllhN (84) (4) (428) rfl rfl rfl Tryd.underlying30 sz5_1 (by omega) (by omega) rfl ?_
  refine cl ca43 (c_putLe _ _ _ _ _ _ _ _ H.look (by first | omega | ((try simp only [pAt_length, leB_len, gB_len, List.length_set, List.length_replicate]); omega)) (by omega)) rfl ?_
  rintro _ w17 ⟨rfl, hlen, F, hnew⟩
  replace H := H.put F hnew; clear F hnew
  refine nl ?_
  refine then_n ?_
  refine sq ?_
  refine dr (by kernel_rfl) ?_   -- region 14
  have H := H.drew
  refine hold (fun w' => SH w [] w' [⟨b1, .cells (gtCells D m c 512 gu pr rc).toArray 24 (0, 0), true⟩]) [] ?_
  refine tk (i := 0) rfl (by kernel_rfl) rfl (H.sub (by repeat (first | exact List.Sublist.refl _ | exact List.nil_sublist _ | apply List.Sublist.cons_cons | apply List.Sublist.cons))) (fun w' H => r_mv (v := .slice _ _ _) rfl) ?_
  refine tk (i := 1) rfl (by kernel_rfl) rfl (H.sub (by repeat (first | exact List.Sublist.refl _ | exact List.nil_sublist _ | apply List.Sublist.cons_cons | apply List.Sublist.cons))) (fun w' H => r_sllhN (88) (4) (424) rfl rfl rfl Tryd.underlying30 sz5_1 (by omega) (by omega)) ?_
  refine tk (i := 2) rfl (by kernel_rfl) rfl (H.sub (by repeat (first | exact List.Sublist.refl _ | exact List.nil_sublist _ | apply List.Sublist.cons_cons | apply List.Sublist.cons))) (fun w' H => r_mv (v := .slice _ _ _) rfl) ?_
  refine fk (i := 3) (by kernel_rfl) rfl rfl rfl ?_
  refine cl ca44 (c_specCrc _ _ _ _ _ (hA.keep H.fr) (by omega)) rfl ?_
  rintro _ w18 ⟨rfl, F⟩
  replace H := H.keep F; clear F
  refine nl ?_
  refine then_n ?_
  refine ⟨H.sub (by repeat (first | exact List.Sublist.refl _ | exact List.nil_sublist _ | apply List.Sublist.cons_cons | apply List.Sublist.cons)), ?_⟩
  refine tk (i := 4) rfl (by kernel_rfl) rfl (H.sub (by repeat (first | exact List.Sublist.refl _ | exact List.nil_sublist _ | apply List.Sublist.cons_cons | apply List.Sublist.cons))) (fun w' H => r_cvi rfl rfl Tryd.underlying28 (by first | exact w_u64 (by omega) | exact w_u64 (rng_u64 _) | exact m_u64 _)) ?_
  refine fk (i := 5) (by kernel_rfl) rfl rfl rfl ?_
  refine cl ca43 (c_putLe _ _ _ _ _ _ _ _ H.look (by first | omega | ((try simp only [pAt_length, leB_len, gB_len, List.length_set, List.length_replicate]); omega)) (by omega)) rfl ?_
  rintro _ w19 ⟨rfl, hlen, F, hnew⟩
  replace H := H.put F hnew; clear F hnew
  replace H := sh_bytes1 H (hdr_put (gB_len gu))
  have hl9 := hdrS_len (s := 0) (a := a) (o := o) (e := e) (n := n) (c := crc32 arr) (gB_len gu)
  have hl10 : (hdrS 0 a o e n (gB gu) (crc32 arr) ++ List.replicate 420 0).length = 512 := by rw [List.length_append, hl9, List.length_replicate]
  have hcr2 := crc32_rng (hdrS 0 a o e n (gB gu) (crc32 arr))
  refine nl ?_
  refine then_n ?_
  refine ⟨H.sub (by repeat (first | exact List.Sublist.refl _ | exact List.nil_sublist _ | apply List.Sublist.cons_cons | apply List.Sublist.cons)), ?_⟩
  refine da (by kernel_rfl) ?_
  refine then_n ?_
  refine sq ?_
  refine dr (by kernel_rfl) ?_   -- region 15
  have H := H.drew
  refine hold (fun w' => SH w [] w' [⟨b1, .cells (gtCells D m c 512 gu pr rc).toArray 24 (0, 0), true⟩]) [] ?_
  refine tk (i := 0) rfl (by kernel_rfl) rfl (H.sub (by repeat (first | exact List.Sublist.refl _ | exact List.nil_sublist _ | apply List.Sublist.cons_cons | apply List.Sublist.cons))) (fun w' H => r_mv (v := .slice _ _ _) rfl) ?_
  refine tk (i := 1) rfl (by kernel_rfl) rfl (H.sub (by repeat (first | exact List.Sublist.refl _ | exact List.nil_sublist _ | apply List.Sublist.cons_cons | apply List.Sublist.cons))) (fun w' H => r_sllhN (16) (4) (496) rfl rfl rfl Tryd.underlying30 sz5_1 (by omega) (by omega)) ?_
  refine tk (i := 2) rfl (by kernel_rfl) rfl (H.sub (by repeat (first | exact List.Sublist.refl _ | exact List.nil_sublist _ | apply List.Sublist.cons_cons | apply List.Sublist.cons))) (fun w' H => r_mv (v := .slice _ _ _) rfl) ?_
  refine tk (i := 3) rfl (by kernel_rfl) rfl (H.sub (by repeat (first | exact List.Sublist.refl _ | exact List.nil_sublist _ | apply List.Sublist.cons_cons | apply List.Sublist.cons))) (fun w' H => r_slh rfl rfl Tryd.underlying30 sz5_1 (by first | trivial | omega | (simp; omega))) ?_
  refine fk (i := 4) (by kernel_rfl) rfl rfl rfl ?_
  refine cl ca44 (c_specCrc _ _ _ _ (hdrS 0 a o e n (gB gu) (crc32 arr)) (by have := RB.of (b := b2) (o := 0) (n := 92) H (by omega); rw [hdr_take (gB_len gu)] at this; exact this) (by decide)) rfl ?_
  rintro _ w20 ⟨rfl, F⟩
  replace H := H.keep F; clear F
  refine nl ?_
  refine then_n ?_
  refine ⟨H.sub (by repeat (first | exact List.Sublist.refl _ | exact List.nil_sublist _ | apply List.Sublist.cons_cons | apply List.Sublist.cons)), ?_⟩
  refine tk (i := 5) rfl (by kernel_rfl) rfl (H.sub (by repeat (first | exact List.Sublist.refl _ | exact List.nil_sublist _ | apply List.Sublist.cons_cons | apply List.Sublist.cons))) (fun w' H => r_cvi rfl rfl Tryd.underlying28 (by first | exact w_u64 (by omega) | exact w_u64 (rng_u64 _) | exact m_u64 _)) ?_
  refine fk (i := 6) (by kernel_rfl) rfl rfl rfl ?_
  refine cl ca43 (c_putLe _ _ _ _ _ _ _ _ H.look (by first | omega | ((try simp only [pAt_length, leB_len, gB_len, List.length_set, List.length_replicate]); omega)) (by omega)) rfl ?_
  rintro _ w21 ⟨rfl, hlen, F, hnew⟩
  replace H := H.put F hnew; clear F hnew
  refine nl ?_
  refine then_n ?_
  refine ⟨H.sub (by repeat (first | exact List.Sublist.refl _ | exact List.nil_sublist _ | apply List.Sublist.cons_cons | apply List.Sublist.cons)), ?_⟩
  refine da (by kernel_rfl) ?_
  refine then_n ?_
  refine sq ?_
  refine rg ?_
  refine mv (v := .slice _ _ _) rfl rfl ?_
  refine asg (v := .slice _ _ _) rfl rfl ?_
  refine nl ?_
  refine then_n ?_
  refine rt ?_
  refine fin_r ?_
  have e0 := H.look (b := b2)
  exact ⟨b2, rfl, H.ge, e0.trans (congrArg (fun l => some (Obj.cells (Bs l).toArray 5 (0, 0))) (hdr_sum (gB_len gu) _)), H.fr⟩

set_option maxRecDepth 100000 in
set_option maxHeartbeats 1000000 in
theorem c_gptEncode (w : World) (b n k : Nat) (T : TypeId) (ds : List UInt8) (D : Option Addr) (m c : Nat) (gu : List UInt8) (rc : Bool) (ps : List GP) (hb : w.heap[b]? = some (.cells (Bs ds).toArray T (0, 0))) (hn : 80 ≤ n ∧ n ≤ 1000) (hk : n * 512 ≤ k) (hd : ds.length = n * 512) (hq : RG w D m c ps) (hm : m ≤ 200) (hf : ∀ p ∈ ps, p.fit ∧ p.fits) : Calls Tryd.prog 11 #[.slice (some ⟨b, 0, none⟩) (n * 512) k, .agg (gtCells D m c 512 gu true rc).toArray] w (Ret fun v w' => v = .tuple #[] ∧ (encB ds n gu ps).length = ds.length ∧ Fr [b] w w' ∧ w'.heap[b]? = some (.cells (Bs (encB ds n gu ps)).toArray T (0, 0))) := by
  refine enter (fun _ => .tuple #[]) Tryd.func11 rfl rfl rfl (res0 rfl) ?_
  have H := SH.rw1 hb
  have hal := arrB_len fun p hp => (hf p hp).2
  refine sq ?_
  refine rg ?_
  refine bx (v := .agg _) H rfl rfl rfl ?_
  clear H; intro b1 w1 hb1 H _
  refine nl ?_
  refine then_n ?_
  refine sq ?_
  refine rg ?_
  rename_i F0
  refine fa rfl fo24_1 rfl ?_
  first | refine ld H rfl sc3 rfl rfl ?_ | refine lc rfl (by first | assumption | exact H.fr.cell (by assumption) (by simp)) sc3 rfl ?_ | refine ld H rfl sc3 (by assumption) rfl ?_
  refine cvi rfl rfl Tryd.underlying28 (by first | exact w_u64 (by omega) | exact w_u64 (rng_u64 _) | exact m_u64 _) rfl ?_
  refine asg (v := .int .u64 _) rfl rfl ?_
  refine nl ?_
  refine then_n ?_
  refine sq ?_
  refine rg ?_
  refine mv (v := .slice _ _ _) rfl rfl ?_
  refine lnS rfl Tryd.underlying30 rfl ?_
  refine cvi rfl rfl Tryd.underlying28 (by first | exact w_u64 (by omega) | exact w_u64 (rng_u64 _) | exact m_u64 _) rfl ?_
  refine mv (v := .int .u64 _) rfl rfl ?_
  refine quo (c := (n : Int)) rfl rfl (by omega) (by omega) (by rw [w_u64 (by omega)]; omega) rfl ?_
  refine asg (v := .int .u64 _) rfl rfl ?_
  refine nl ?_
  refine then_n ?_
  refine sq ?_
  refine rg ?_
  first | refine la H rfl ag24_5 rfl rfl rfl ?_ | refine lw rfl ag24_5 rfl (by assumption) rfl ?_
  refine cl ca26 (c_gptArray _ D m c gu true rc ps (hq.keep F0) (by omega) hf) rfl ?_
  rintro _ w2 ⟨b2, rfl, hb2, ho2, F⟩
  replace H := H.new F hb2 ho2; clear F ho2
  refine asg (v := .slice _ _ _) rfl rfl ?_
  refine nl ?_
  refine then_n ?_
  refine sq ?_
  refine sq ?_
  refine rg ?_
  refine fa rfl fo24_3 rfl ?_
  first | refine ld H rfl sc4 rfl rfl ?_ | refine lc rfl (by first | assumption | exact H.fr.cell (by assumption) (by simp)) sc4 rfl ?_ | refine ld H rfl sc4 (by assumption) rfl ?_
  refine nl ?_
  refine then_n ?_
  first | refine cT rfl rfl ?_ | refine cbT rfl rfl ?_   -- test 1
  refine rg ?_
  refine mv (v := .slice _ _ _) rfl rfl ?_
  refine slh rfl rfl Tryd.underlying30 sz5_1 (by first | trivial | omega | (simp; omega)) rfl ?_
  refine mv (v := .int .u64 _) rfl rfl ?_
  refine sub rfl rfl (by first | exact w_u64 (by omega) | exact w_u64 (rng_u64 _) | exact m_u64 _) rfl ?_
  refine min2 rfl rfl rfl ?_
  refine cvi (c := (n : Int) - 1) rfl rfl Tryd.underlying53 (by rw [w_u32 (by omega)]; omega) rfl ?_
  refine bu (out := ?o1) ze57 bo57 ?f1 rfl ?_
  case f1 =>
    refine FL.one (v := .int .u8 _) rfl pl57_0 rfl (by first | decide | simp) ?_
    refine FL.one (v := .int .u8 _) rfl pl57_1 rfl (by first | decide | simp) ?_
    refine FL.one (v := .int .u8 _) rfl pl57_2 rfl (by first | decide | simp) ?_
    refine FL.one (v := .int .u8 _) rfl pl57_3 rfl (by first | decide | simp) ?_
    refine FL.one (v := .int .u8 _) rfl pl57_4 rfl (by first | decide | simp) ?_
    refine FL.one (v := .int .u8 _) rfl pl57_5 rfl (by first | decide | simp) ?_
    exact FL.nil
  refine bu (out := ?o2) ze59 bo59 ?f2 rfl ?_
  case f2 =>
    refine FL.one (v := .int .u8 _) rfl pl59_2 rfl (by first | decide | simp) ?_
    refine FL.one (v := .int .u32 _) rfl pl59_3 rfl (by first | decide | simp) ?_
    refine FL.one (v := .int .u32 _) rfl pl59_4 rfl (by first | decide | simp) ?_
    refine FL.agg rfl pl59_5 rfl (by first | decide | simp) ?_
    exact FL.nil
  refine bu (out := ?o3) ze60 bo60 ?f3 rfl ?_
  case f3 =>
    refine FL.agg rfl pl60_0 rfl (by first | decide | simp) ?_
    exact FL.nil
  refine cl ca27 (c_mbrEncode _ _ _ _ _ _ (protM n) (H.look (b := b)) (by omega) (by decide) (by omega) rfl (protM_ok (by omega))) rfl ?_
  rintro _ w3 ⟨rfl, hlen, F, hnew⟩
  replace H := H.put (b := b) F hnew; clear F hnew
  refine nl ?_
  refine then_n ?_
  refine sq ?_
  refine dr (by kernel_rfl) ?_   -- region 6
  have H := H.drew
  refine hold (fun w' => SH w [b] w' [⟨b1, .cells (gtCells D m c 512 gu true rc).toArray 24 (0, 0), true⟩]) [] ?_
  refine tk (i := 0) rfl (by kernel_rfl) rfl (H.sub (by repeat (first | exact List.Sublist.refl _ | exact List.nil_sublist _ | apply List.Sublist.cons_cons | apply List.Sublist.cons))) (fun w' H => r_mv (v := .slice _ _ _) rfl) ?_
  refine tk (i := 1) rfl (by kernel_rfl) rfl (H.sub (by repeat (first | exact List.Sublist.refl _ | exact List.nil_sublist _ | apply List.Sublist.cons_cons | apply List.Sublist.cons))) (fun w' H => r_mv (v := .int .u64 _) rfl) ?_
  refine tk (i := 2) rfl (by kernel_rfl) rfl (H.sub (by repeat (first | exact List.Sublist.refl _ | exact List.nil_sublist _ | apply List.Sublist.cons_cons | apply List.Sublist.cons))) (fun w' H => r_sllN (512) (n * 512 - 512) (k - 512) rfl rfl Tryd.underlying30 sz5_1 (by omega) (by omega)) ?_
  first | refine tk (i := 3) rfl (by kernel_rfl) rfl (H.sub (by repeat (first | exact List.Sublist.refl _ | exact List.nil_sublist _ | apply List.Sublist.cons_cons | apply List.Sublist.cons))) (fun w' H => r_la H rfl ag24_5 rfl rfl) ?_ | refine tk (i := 3) rfl (by kernel_rfl) rfl (H.sub (by repeat (first | exact List.Sublist.refl _ | exact List.nil_sublist _ | apply List.Sublist.cons_cons | apply List.Sublist.cons))) (fun w' H => r_lw rfl ag24_5 rfl (by assumption)) ?_
  refine tk (i := 4) rfl (by kernel_rfl) rfl (H.sub (by repeat (first | exact List.Sublist.refl _ | exact List.nil_sublist _ | apply List.Sublist.cons_cons | apply List.Sublist.cons))) (fun w' H => r_mv (v := .int .u64 _) rfl) ?_
  refine tk (i := 5) rfl (by kernel_rfl) rfl (H.sub (by repeat (first | exact List.Sublist.refl _ | exact List.nil_sublist _ | apply List.Sublist.cons_cons | apply List.Sublist.cons))) (fun w' H => r_sub rfl rfl (by first | exact w_u64 (by omega) | exact w_u64 (rng_u64 _) | exact m_u64 _)) ?_
  refine tk (i := 6) rfl (by kernel_rfl) rfl (H.sub (by repeat (first | exact List.Sublist.refl _ | exact List.nil_sublist _ | apply List.Sublist.cons_cons | apply List.Sublist.cons))) (fun w' H => r_mv (v := .int .u64 _) rfl) ?_
  refine tk (i := 7) rfl (by kernel_rfl) rfl (H.sub (by repeat (first | exact List.Sublist.refl _ | exact List.nil_sublist _ | apply List.Sublist.cons_cons | apply List.Sublist.cons))) (fun w' H => r_mv (v := .slice _ _ _) rfl) ?_
  refine fk (i := 8) (by kernel_rfl) rfl rfl rfl ?_
  refine cl ca28 (c_gptHeader _ D m c gu true rc 1 ((n : Int) - 1) 2 (n : Int) (some ⟨b2, 0, none⟩) 16384 16384 (arrB ps) (RB.allm (b := b2) H hal) (by decide) (by omega) (by omega) (by omega) (by omega)) rfl ?_
  rintro _ w4 ⟨b3, rfl, hb3, ho3, F⟩
  replace H := H.new F hb3 ho3; clear F ho3
  refine nl ?_
  refine then_n ?_
  refine ⟨H.sub (by repeat (first | exact List.Sublist.refl _ | exact List.nil_sublist _ | apply List.Sublist.cons_cons | apply List.Sublist.cons)), ?_⟩
  refine fk (i := 9) (by kernel_rfl) rfl rfl rfl ?_
  refine cpP (bs := (hdrB 1 ((n : Int) - 1) 2 n (gB gu) (crc32 (arrB ps)))) H rfl rfl Tryd.underlying30 sz5_1 (RB.allm H (hdrB_len (gB_len gu))) (by omega) (by omega) (by omega) rfl ?_
  clear H; intro w5 H _ hlen
  refine nl ?_
  refine then_n ?_
  refine ⟨H.sub (by repeat (first | exact List.Sublist.refl _ | exact List.nil_sublist _ | apply List.Sublist.cons_cons | apply List.Sublist.cons)), ?_⟩
  refine da (by kernel_rfl) ?_
  refine then_n ?_
  refine sq ?_
  refine rg ?_
  refine mv (v := .slice _ _ _) rfl rfl ?_
  refine mv (v := .int .u64 _) rfl rfl ?_
  refine mul rfl rfl (by first | exact w_u64 (by omega) | exact w_u64 (rng_u64 _) | exact m_u64 _) rfl ?_
  refine sllN (1024) (n * 512 - 1024) (k - 1024) rfl rfl Tryd.underlying30 sz5_1 (by omega) (by omega) rfl ?_
  refine mv (v := .slice _ _ _) rfl rfl ?_
  refine cpP (bs := arrB ps) H rfl rfl Tryd.underlying30 sz5_1 (RB.allm H hal) (by omega) (by omega) (by omega) rfl ?_
  clear H; intro w6 H _ hlen
  refine nl ?_
  refine then_n ?_
  refine sq ?_
  refine rg ?_
  refine mv (v := .int .u64 _) rfl rfl ?_
  refine sub rfl rfl (by first | exact w_u64 (by omega) | exact w_u64 (rng_u64 _) | exact m_u64 _) rfl ?_
  refine fa rfl fo24_1 rfl ?_
  first | refine ld H rfl sc3 rfl rfl ?_ | refine lc rfl (by first | assumption | exact H.fr.cell (by assumption) (by simp)) sc3 rfl ?_ | refine ld H rfl sc3 (by assumption) rfl ?_
  refine cl ca20 (c_tabSectors _) rfl ?_
  rintro _ w7 ⟨rfl, F⟩
  replace H := H.keep F; clear F
  refine sub (c := (n : Int) - 33) rfl rfl (by rw [w_u64 (by omega)]; omega) rfl ?_
  refine asg (v := .int .u64 _) rfl rfl ?_
  refine nl ?_
  refine then_n ?_
  refine sq ?_
  refine rg ?_
  refine mv (v := .slice _ _ _) rfl rfl ?_
  refine mv (v := .int .u64 _) rfl rfl ?_
  refine mv (v := .int .u64 _) rfl rfl ?_
  refine mul rfl rfl (by first | exact w_u64 (by omega) | exact w_u64 (rng_u64 _) | exact m_u64 _) rfl ?_
  refine sllN ((n - 33) * 512) (n * 512 - (n - 33) * 512) (k - (n - 33) * 512) rfl rfl Tryd.underlying30 sz5_1 (by omega) (by omega) rfl ?_
  refine mv (v := .slice _ _ _) rfl rfl ?_
  refine cpP (bs := arrB ps) H rfl rfl Tryd.underlying30 sz5_1 (RB.allm H hal) (by omega) (by omega) (by omega) rfl ?_
  clear H; intro w8 H _ hlen
  refine nl ?_
  refine then_n ?_
  refine dr (by kernel_rfl) ?_   -- region 10
  have H := H.drew
  refine hold (fun w' => SH w [b] w' [⟨b1, .cells (gtCells D m c 512 gu true rc).toArray 24 (0, 0), true⟩]) [] ?_
  refine tk (i := 0) rfl (by kernel_rfl) rfl (H.sub (by repeat (first | exact List.Sublist.refl _ | exact List.nil_sublist _ | apply List.Sublist.cons_cons | apply List.Sublist.cons))) (fun w' H => r_mv (v := .slice _ _ _) rfl) ?_
  refine tk (i := 1) rfl (by kernel_rfl) rfl (H.sub (by repeat (first | exact List.Sublist.refl _ | exact List.nil_sublist _ | apply List.Sublist.cons_cons | apply List.Sublist.cons))) (fun w' H => r_mv (v := .int .u64 _) rfl) ?_
  refine tk (i := 2) rfl (by kernel_rfl) rfl (H.sub (by repeat (first | exact List.Sublist.refl _ | exact List.nil_sublist _ | apply List.Sublist.cons_cons | apply List.Sublist.cons))) (fun w' H => r_sub rfl rfl (by first | exact w_u64 (by omega) | exact w_u64 (rng_u64 _) | exact m_u64 _)) ?_
  refine tk (i := 3) rfl (by kernel_rfl) rfl (H.sub (by repeat (first | exact List.Sublist.refl _ | exact List.nil_sublist _ | apply List.Sublist.cons_cons | apply List.Sublist.cons))) (fun w' H => r_mv (v := .int .u64 _) rfl) ?_
  refine tk (i := 4) rfl (by kernel_rfl) rfl (H.sub (by repeat (first | exact List.Sublist.refl _ | exact List.nil_sublist _ | apply List.Sublist.cons_cons | apply List.Sublist.cons))) (fun w' H => r_mul rfl rfl (by first | exact w_u64 (by omega) | exact w_u64 (rng_u64 _) | exact m_u64 _)) ?_
  refine tk (i := 5) rfl (by kernel_rfl) rfl (H.sub (by repeat (first | exact List.Sublist.refl _ | exact List.nil_sublist _ | apply List.Sublist.cons_cons | apply List.Sublist.cons))) (fun w' H => r_sllN ((n - 1) * 512) (512) (k - (n - 1) * 512) rfl rfl Tryd.underlying30 sz5_1 (by omega) (by omega)) ?_
  first | refine tk (i := 6) rfl (by kernel_rfl) rfl (H.sub (by repeat (first | exact List.Sublist.refl _ | exact List.nil_sublist _ | apply List.Sublist.cons_cons | apply List.Sublist.cons))) (fun w' H => r_la H rfl ag24_5 rfl rfl) ?_ | refine tk (i := 6) rfl (by kernel_rfl) rfl (H.sub (by repeat (first | exact List.Sublist.refl _ | exact List.nil_sublist _ | apply List.Sublist.cons_cons | apply List.Sublist.cons))) (fun w' H => r_lw rfl ag24_5 rfl (by assumption)) ?_
  refine tk (i := 7) rfl (by kernel_rfl) rfl (H.sub (by repeat (first | exact List.Sublist.refl _ | exact List.nil_sublist _ | apply List.Sublist.cons_cons | apply List.Sublist.cons))) (fun w' H => r_mv (v := .int .u64 _) rfl) ?_
  refine tk (i := 8) rfl (by kernel_rfl) rfl (H.sub (by repeat (first | exact List.Sublist.refl _ | exact List.nil_sublist _ | apply List.Sublist.cons_cons | apply List.Sublist.cons))) (fun w' H => r_sub rfl rfl (by first | exact w_u64 (by omega) | exact w_u64 (rng_u64 _) | exact m_u64 _)) ?_
  refine tk (i := 9) rfl (by kernel_rfl) rfl (H.sub (by repeat (first | exact List.Sublist.refl _ | exact List.nil_sublist _ | apply List.Sublist.cons_cons | apply List.Sublist.cons))) (fun w' H => r_mv (v := .int .u64 _) rfl) ?_
  refine tk (i := 10) rfl (by kernel_rfl) rfl (H.sub (by repeat (first | exact List.Sublist.refl _ | exact List.nil_sublist _ | apply List.Sublist.cons_cons | apply List.Sublist.cons))) (fun w' H => r_mv (v := .int .u64 _) rfl) ?_
  refine tk (i := 11) rfl (by kernel_rfl) rfl (H.sub (by repeat (first | exact List.Sublist.refl _ | exact List.nil_sublist _ | apply List.Sublist.cons_cons | apply List.Sublist.cons))) (fun w' H => r_mv (v := .slice _ _ _) rfl) ?_
  refine fk (i := 12) (by kernel_rfl) rfl rfl rfl ?_
  refine cl ca28 (c_gptHeader _ D m c gu true rc ((n : Int) - 1) 1 ((n : Int) - 33) (n : Int) (some ⟨b2, 0, none⟩) 16384 16384 (arrB ps) (RB.allm (b := b2) H hal) (by decide) (by omega) (by omega) (by omega) (by omega)) rfl ?_
  rintro _ w9 ⟨b4, rfl, hb4, ho4, F⟩
  replace H := H.new F hb4 ho4; clear F ho4
  refine nl ?_
  refine then_n ?_
  refine ⟨H.sub (by repeat (first | exact List.Sublist.refl _ | exact List.nil_sublist _ | apply List.Sublist.cons_cons | apply List.Sublist.cons)), ?_⟩
  refine fk (i := 13) (by kernel_rfl) rfl rfl rfl ?_
  refine cpP (bs := (hdrB ((n : Int) - 1) 1 ((n : Int) - 33) n (gB gu) (crc32 (arrB ps)))) H rfl rfl Tryd.underlying30 sz5_1 (RB.allm H (hdrB_len (gB_len gu))) (by omega) (by omega) (by omega) rfl ?_
  clear H; intro w10 H _ hlen
  refine nl ?_
  refine then_n ?_
  refine ⟨H.sub (by repeat (first | exact List.Sublist.refl _ | exact List.nil_sublist _ | apply List.Sublist.cons_cons | apply List.Sublist.cons)), ?_⟩
  refine da (by kernel_rfl) ?_
  refine fin_n ?_
  exact ⟨rfl, by unfold encB; omega, H.fr, H.look⟩

end Go.Proofs.YthcaejaaalkglaaDoor.X
