/- Laws and walks on the road to the statement: P4, P5, P6, GuidPure2, P7. -/
import Derived.Test.YthcaejaaalkglaaGreatDoorM3
/- Walks of functions, printed by a program of this claim. -/
namespace Go.Proofs.YthcaejaaalkglaaGreatDoor.X
set_option linter.unusedVariables false
set_option linter.unusedSimpArgs false
open Go Go.RowKit

namespace PF
theorem ag64_11 : aggB Tryz.prog 64 11 = true := by kernel_rfl
theorem ag65_44 : aggB Tryz.prog 65 44 = true := by kernel_rfl
theorem ca45 : callable Tryz.prog 45 = true := by kernel_rfl
theorem fo64_1 : fieldOff Tryz.prog 64 1 = some 1 := by kernel_rfl
theorem fo64_2 : fieldOff Tryz.prog 64 2 = some 2 := by kernel_rfl
theorem fo64_3 : fieldOff Tryz.prog 64 3 = some 3 := by kernel_rfl
theorem fo64_4 : fieldOff Tryz.prog 64 4 = some 4 := by kernel_rfl
theorem fo64_5 : fieldOff Tryz.prog 64 5 = some 5 := by kernel_rfl
theorem mi5 : elemInfo Tryz.prog 5 = some (.int .u8 0, 1) := by kernel_rfl
theorem sc4 : scalarB Tryz.prog 4 = true := by kernel_rfl
theorem sc58 : scalarB Tryz.prog 58 = true := by kernel_rfl
theorem ze64 : zeroL Tryz.prog 64 = some [.int .i64 0, .bool false, .int .u8 0, .int .u32 0, .int .u32 0, .int .u8 0, .int .u8 0, .int .u8 0, .int .u8 0, .int .u8 0, .int .u8 0] := by kernel_rfl
end PF
open PF

set_option maxRecDepth 100000 in
set_option maxHeartbeats 1000000 in
theorem c_putLe (w : World) (b o n c : Nat) (x : Int) (T : TypeId) (cur : List UInt8) (hb : w.heap[b]? = some (.cells (Bs cur).toArray T (0, 0))) (ho : o + n ≤ cur.length) (hn : n ≤ 9223372036854775806) : Calls Tryz.prog 45 #[.slice (some ⟨b, o, none⟩) n c, .int .u64 x] w (Ret fun v w' => v = .tuple #[] ∧ (pAt cur o (leB n x)).length = cur.length ∧ Fr [b] w w' ∧ w'.heap[b]? = some (.cells (Bs (pAt cur o (leB n x))).toArray T (0, 0))) := by
 refine enter (fun _ => .tuple #[]) Tryz.func45 rfl rfl rfl (res0 rfl) ?_
 have H := SH.rw1 hb
 refine sq ?_
 refine rg ?_
 refine mv (v := .slice _ _ _) rfl rfl ?_
 refine lnS rfl Tryz.underlying30 rfl ?_
 refine mv (v := .int .i64 _) rfl rfl ?_
 refine nl ?_
 refine then_n ?_
 refine bk ?_
 have e0 : x = x / 256 ^ 0 := by simp
 refine lpM (α := Nat) [1, 4, 7, 8, 9, 10, 11, 12, 13, 14, 15, 16, 17] (fun i => [(1, .int .u64 (x / 256 ^ i)), (7, .int .i64 (i : Int))]) (fun i w' => i ≤ n ∧ SH w [b] w' [⟨b, .cells (Bs (pAt cur o (leB i x))).toArray T (0, 0), true⟩]) (fun i => n - i) 0 ?_ (fC (by first | rfl | exact congrArg (Value.int _) (by first | omega | assumption | (symm; assumption) | (simp; done) | (simp; omega)) | exact congrArg (fun n => Value.slice _ n _) (by first | omega | (simp; done) | (simp; omega))) (fC (by first | rfl | exact congrArg (Value.int _) (by first | omega | assumption | (symm; assumption) | (simp; done) | (simp; omega)) | exact congrArg (fun n => Value.slice _ n _) (by first | omega | (simp; done) | (simp; omega))) (fN _))) ?_
 ·exact ⟨by omega, by rw [show leB 0 x = [] from rfl, pAt_nil]; exact H⟩
 ·rintro i ρx w1 ⟨hi, H⟩
  have hX : (pAt cur o (leB i x)).length = cur.length := pAt_len (by rw [leB_len]; omega)
  have hp0 : (0 : Int) < 256 ^ i := Int.pow_pos (by decide)
  have hq : x / 256 ^ i / 256 = x / 256 ^ (i + 1) := (Int.ediv_ediv .. |>.trans (by rw [if_neg (fun h => absurd h.1 (by omega)), Int.sub_zero, Int.pow_succ]))
  refine sq ?_
  refine rg ?_
  refine lss rfl rfl rfl ?_
  refine nl ?_
  refine then_n ?_
  refine sq ?_
  refine cd rfl (fun hc1 => ?_) (fun hc1 => ?_)
  ·refine sk ?_
   refine then_n ?_
   refine sq ?_
   refine bk ?_
   refine sq ?_
   refine rg ?_
   refine mv (v := .int .i64 _) rfl rfl ?_
   refine asg (v := .int .i64 _) rfl rfl ?_
   refine nl ?_
   refine then_n ?_
   refine sq ?_
   refine rg ?_
   refine mv (v := .slice _ _ _) rfl rfl ?_
   refine mv (v := .int .i64 _) rfl rfl ?_
   refine mv (v := .int .u64 _) rfl rfl ?_
   refine cvi rfl rfl Tryz.underlying5 (by first | exact w_u8 (by omega) | exact w_u8 (rng_u8 _) | exact m_u8 _) rfl ?_
   refine ia rfl rfl Tryz.underlying30 sz5_1 (by omega) rfl ?_
   refine stb H rfl rfl sc5 (by omega) (by first | decide | (simp only [List.length_set, List.length_cons, List.length_nil, List.length_replicate, List.length_append, Bs_length]; omega) | omega) (by omega) ?_
   clear H; intro w2 H _
   refine nl ?_
   refine then_n ?_
   refine rg ?_
   refine mv (v := .int .u64 _) rfl rfl ?_
   refine shrK (s := 8) (p := 256) rfl rfl (by decide) (by decide) rfl rfl ?_
   refine asg (v := .int .u64 _) rfl rfl ?_
   refine nl ?_
   refine in_n ?_
   refine then_n ?_
   refine rg ?_
   refine add rfl rfl (by first | exact w_i64 (by omega) | exact w_i64 (rng_i64 _) | rfl) rfl ?_
   refine mv (v := .int .i64 _) rfl rfl ?_
   refine nl ?_
   refine loop_n ?_
   exact ⟨i + 1, (by (try dsimp only); omega), ⟨by omega, sh_bytes H (by rw [leB_snoc, ← pAt_set (by rw [leB_len]; omega)]; exact set_eq (by rw [leB_len]; omega) rfl)⟩, (fC (by first | rfl | exact congrArg (Value.int _) (by first | omega | assumption | (symm; assumption) | (simp; done) | (simp; omega)) | exact congrArg (fun n => Value.slice _ n _) (by first | omega | (simp; done) | (simp; omega))) (fC (by first | rfl | exact congrArg (Value.int _) (by first | omega | assumption | (symm; assumption) | (simp; done) | (simp; omega)) | exact congrArg (fun n => Value.slice _ n _) (by first | omega | (simp; done) | (simp; omega))) (fN _))), (by repeat (first | exact Agree.setL rfl Agree.mask | exact Agree.self _ _ | refine Agree.upd rfl ?_ | refine Agree.setL rfl ?_ | refine Agree.mask2 rfl ?_))⟩
  ·refine ex ?_
   refine then_e ?_
   refine loop_e ?_
   refine in_hit rfl ?_
   refine fin_n ?_
   obtain rfl : i = n := by omega
   exact ⟨rfl, pAt_len (by rw [leB_len]; omega), H.fr, H.look⟩

set_option maxRecDepth 100000 in
set_option maxHeartbeats 1000000 in
theorem c_mbrEncode (w : World) (b n c : Nat) (T : TypeId) (ds : List UInt8) (ps : List MP) (hb : w.heap[b]? = some (.cells (Bs ds).toArray T (0, 0))) (hd : 512 ≤ ds.length) (hn : 512 ≤ n) (hc : n ≤ c) (h4 : ps.length = 4) (hok : ∀ p ∈ ps, p.ok) : Calls Tryz.prog 28 #[.slice (some ⟨b, 0, none⟩) n c, .agg (ps.flatMap MP.cells).toArray] w (Ret fun v w' => v = .tuple #[] ∧ (mbrB ds ps).length = ds.length ∧ Fr [b] w w' ∧ w'.heap[b]? = some (.cells (Bs (mbrB ds ps)).toArray T (0, 0))) := by
 refine enter (fun _ => .tuple #[]) Tryz.func28 rfl rfl rfl (res0 rfl) ?_
 have H := SH.rw1 hb
 have hcl : (ps.flatMap MP.cells).length = 44 := by rw [flat_len MP.cells_len, h4]
 refine sq ?_
 refine rg ?_
 refine bx (v := .agg _) H rfl rfl rfl ?_
 clear H; intro b1 w1 hb1 H _
 refine nl ?_
 refine then_n ?_
 refine sq ?_
 refine sq ?_
 refine rg ?_
 refine la H rfl ag65_44 hcl (by rw [List.drop_zero, List.take_of_length_le (by omega)]) rfl ?_
 refine mv (v := .int .i64 _) rfl rfl ?_
 refine nl ?_
 refine then_n ?_
 refine bk ?_
 replace H := H.drop
 refine lpM (α := Nat) [4, 5, 6, 8, 9, 10, 11, 12, 13, 14, 15, 16, 17, 18, 19, 20, 21, 22, 23, 24, 25, 26, 27, 28, 29, 30, 31, 32, 33, 34, 35, 36, 37, 38, 39, 40, 41, 42, 43, 44, 45, 46, 47, 48, 49, 50, 51, 52, 53, 54, 55, 56, 57, 58, 59, 60, 61, 62, 63, 64, 65, 66, 67, 68, 69, 70, 71, 72] (fun i => [(8, .int .i64 (i : Int))]) (fun i w' => i ≤ 4 ∧ SH w [b] w' [⟨b, .cells (Bs (pAt ds 446 ((ps.take i).flatMap MP.bytes))).toArray T (0, 0), true⟩]) (fun i => 4 - i) 0 ?_ (fC (by first | rfl | exact congrArg (Value.int _) (by first | omega | assumption | (symm; assumption) | (simp; done) | (simp; omega)) | exact congrArg (fun n => Value.slice _ n _) (by first | omega | (simp; done) | (simp; omega))) (fN _)) ?_
 ·exact ⟨by omega, by simpa [pAt_nil] using H⟩
 ·rintro i ρx w2 ⟨hi, H⟩
  have hk4 : (ps.take i).length ≤ 4 := by simp; omega
  have hX : (pAt ds 446 ((ps.take i).flatMap MP.bytes)).length = ds.length := pAt_len (by rw [flat_len MP.bytes_len]; omega)
  refine sq ?_
  refine rg ?_
  refine lss rfl rfl rfl ?_
  refine nl ?_
  refine then_n ?_
  refine sq ?_
  refine cd rfl (fun hc1 => ?_) (fun hc1 => ?_)
  ·obtain ⟨p, hp⟩ : ∃ p, ps[i]? = some p := ⟨_, List.getElem?_eq_getElem (by omega)⟩
   have hpo := hok p (List.mem_of_getElem? hp)
   have := hpo.c0; have := hpo.c1; have := hpo.c2; have := hpo.c3; have := hpo.c4; have := hpo.c5; have := hpo.ty; have := hpo.st; have := hpo.sz
   refine sk ?_
   refine then_n ?_
   refine sq ?_
   refine bk ?_
   refine sq ?_
   refine rg ?_
   refine mv (v := .int .i64 _) rfl rfl ?_
   refine ixW rfl rfl Tryz.underlying65 ag64_11 (by omega) (mp_ix hp) rfl ?_
   refine al H ze64 rfl ?_
   clear H; intro b2 w3 hb2 H _
   refine asg (v := .int .i64 _) rfl rfl ?_
   refine sa H rfl rfl ag64_11 rfl rfl (by decide) (by omega) rfl ?_
   clear H; intro w4 H _
   refine nl ?_
   refine then_n ?_
   refine sq ?_
   refine rg ?_
   refine mv (v := .slice _ _ _) rfl rfl ?_
   refine mv (v := .int .i64 _) rfl rfl ?_
   refine mul rfl rfl (by first | exact w_i64 (by omega) | exact w_i64 (rng_i64 _) | rfl) rfl ?_
   refine add rfl rfl (by first | exact w_i64 (by omega) | exact w_i64 (rng_i64 _) | rfl) rfl ?_
   refine mv (v := .int .i64 _) rfl rfl ?_
   refine mul rfl rfl (by first | exact w_i64 (by omega) | exact w_i64 (rng_i64 _) | rfl) rfl ?_
   refine add rfl rfl (by first | exact w_i64 (by omega) | exact w_i64 (rng_i64 _) | rfl) rfl ?_
   refine sllh rfl rfl rfl Tryz.underlying30 sz5_1 (by first | trivial | omega | (simp; omega)) rfl ?_
   refine asg (v := .slice _ _ _) rfl rfl ?_
   refine nl ?_
   refine then_n ?_
   refine sq ?_
   refine rg ?_
   refine mv (v := .slice _ _ _) rfl rfl ?_
   refine ia rfl rfl Tryz.underlying30 sz5_1 (by omega) rfl ?_
   refine stb H rfl rfl sc5 (by omega) (by first | decide | (simp only [List.length_set, List.length_cons, List.length_nil, List.length_replicate, List.length_append, Bs_length]; omega) | omega) (by omega) ?_
   clear H; intro w5 H _
   refine nl ?_
   refine then_n ?_
   refine sq ?_
   refine sq ?_
   refine rg ?_
   refine fa rfl fo64_1 rfl ?_
   refine ld H rfl sc4 rfl rfl ?_
   refine nl ?_
   refine then_n ?_
   refine cn rfl (fun hc2 => ?_) (fun hc2 => ?_)
   ·refine rg ?_
    refine mv (v := .slice _ _ _) rfl rfl ?_
    refine ia rfl rfl Tryz.underlying30 sz5_1 (by omega) rfl ?_
    refine stb H rfl rfl sc5 (by omega) (by first | decide | (simp only [List.length_set, List.length_cons, List.length_nil, List.length_replicate, List.length_append, Bs_length]; omega) | omega) (by omega) ?_
    clear H; intro w6 H _
    refine nl ?_
    refine then_n ?_
    refine sq ?_
    refine dr (by kernel_rfl) ?_
    have H := H.drew
    refine hold (fun w' => SH w [b] w' [⟨b2, .cells p.cells.toArray 64 (0, 0), true⟩]) [] ?_
    refine tk (i := 0) rfl (by kernel_rfl) rfl (H.sub (by repeat (first | exact List.Sublist.refl _ | exact List.nil_sublist _ | apply List.Sublist.cons_cons | apply List.Sublist.cons))) (fun w' H => r_mv (v := .slice _ _ _) rfl) ?_
    refine tk (i := 1) rfl (by kernel_rfl) rfl (H.sub (by repeat (first | exact List.Sublist.refl _ | exact List.nil_sublist _ | apply List.Sublist.cons_cons | apply List.Sublist.cons))) (fun w' H => r_mv (v := .slice _ _ _) rfl) ?_
    refine tk (i := 2) rfl (by kernel_rfl) rfl (H.sub (by repeat (first | exact List.Sublist.refl _ | exact List.nil_sublist _ | apply List.Sublist.cons_cons | apply List.Sublist.cons))) (fun w' H => r_mv (v := .slice _ _ _) rfl) ?_
    refine tk (i := 3) rfl (by kernel_rfl) rfl (H.sub (by repeat (first | exact List.Sublist.refl _ | exact List.nil_sublist _ | apply List.Sublist.cons_cons | apply List.Sublist.cons))) (fun w' H => r_mv (v := .slice _ _ _) rfl) ?_
    refine tk (i := 4) rfl (by kernel_rfl) rfl (H.sub (by repeat (first | exact List.Sublist.refl _ | exact List.nil_sublist _ | apply List.Sublist.cons_cons | apply List.Sublist.cons))) (fun w' H => r_fa rfl fo64_5) ?_
    refine tk (i := 5) rfl (by kernel_rfl) rfl (H.sub (by repeat (first | exact List.Sublist.refl _ | exact List.nil_sublist _ | apply List.Sublist.cons_cons | apply List.Sublist.cons))) (fun w' H => r_iy rfl rfl Tryz.underlying62 sz5_1 (by omega)) ?_
    refine tk (i := 6) rfl (by kernel_rfl) rfl (H.sub (by repeat (first | exact List.Sublist.refl _ | exact List.nil_sublist _ | apply List.Sublist.cons_cons | apply List.Sublist.cons))) (fun w' H => r_ld H rfl sc5 rfl) ?_
    refine tk (i := 7) rfl (by kernel_rfl) rfl (H.sub (by repeat (first | exact List.Sublist.refl _ | exact List.nil_sublist _ | apply List.Sublist.cons_cons | apply List.Sublist.cons))) (fun w' H => r_fa rfl fo64_5) ?_
    refine tk (i := 8) rfl (by kernel_rfl) rfl (H.sub (by repeat (first | exact List.Sublist.refl _ | exact List.nil_sublist _ | apply List.Sublist.cons_cons | apply List.Sublist.cons))) (fun w' H => r_iy rfl rfl Tryz.underlying62 sz5_1 (by omega)) ?_
    refine tk (i := 9) rfl (by kernel_rfl) rfl (H.sub (by repeat (first | exact List.Sublist.refl _ | exact List.nil_sublist _ | apply List.Sublist.cons_cons | apply List.Sublist.cons))) (fun w' H => r_ld H rfl sc5 rfl) ?_
    refine tk (i := 10) rfl (by kernel_rfl) rfl (H.sub (by repeat (first | exact List.Sublist.refl _ | exact List.nil_sublist _ | apply List.Sublist.cons_cons | apply List.Sublist.cons))) (fun w' H => r_fa rfl fo64_5) ?_
    refine tk (i := 11) rfl (by kernel_rfl) rfl (H.sub (by repeat (first | exact List.Sublist.refl _ | exact List.nil_sublist _ | apply List.Sublist.cons_cons | apply List.Sublist.cons))) (fun w' H => r_iy rfl rfl Tryz.underlying62 sz5_1 (by omega)) ?_
    refine tk (i := 12) rfl (by kernel_rfl) rfl (H.sub (by repeat (first | exact List.Sublist.refl _ | exact List.nil_sublist _ | apply List.Sublist.cons_cons | apply List.Sublist.cons))) (fun w' H => r_ld H rfl sc5 rfl) ?_
    refine tk (i := 13) rfl (by kernel_rfl) rfl (H.sub (by repeat (first | exact List.Sublist.refl _ | exact List.nil_sublist _ | apply List.Sublist.cons_cons | apply List.Sublist.cons))) (fun w' H => r_fa rfl fo64_2) ?_
    refine tk (i := 14) rfl (by kernel_rfl) rfl (H.sub (by repeat (first | exact List.Sublist.refl _ | exact List.nil_sublist _ | apply List.Sublist.cons_cons | apply List.Sublist.cons))) (fun w' H => r_ld H rfl sc5 rfl) ?_
    refine tk (i := 15) rfl (by kernel_rfl) rfl (H.sub (by repeat (first | exact List.Sublist.refl _ | exact List.nil_sublist _ | apply List.Sublist.cons_cons | apply List.Sublist.cons))) (fun w' H => r_ia rfl rfl Tryz.underlying30 sz5_1 (by omega)) ?_
    refine fk (i := 16) (by kernel_rfl) rfl rfl rfl ?_
    refine stb H rfl rfl sc5 (by omega) (by first | decide | (simp only [List.length_set, List.length_cons, List.length_nil, List.length_replicate, List.length_append, Bs_length]; omega) | omega) (by omega) ?_
    clear H; intro w7 H _
    refine nl ?_
    refine then_n ?_
    refine ⟨H.sub (by repeat (first | exact List.Sublist.refl _ | exact List.nil_sublist _ | apply List.Sublist.cons_cons | apply List.Sublist.cons)), ?_⟩
    refine tk (i := 17) rfl (by kernel_rfl) rfl (H.sub (by repeat (first | exact List.Sublist.refl _ | exact List.nil_sublist _ | apply List.Sublist.cons_cons | apply List.Sublist.cons))) (fun w' H => r_ia rfl rfl Tryz.underlying30 sz5_1 (by omega)) ?_
    refine fk (i := 18) (by kernel_rfl) rfl rfl rfl ?_
    refine stb H rfl rfl sc5 (by omega) (by first | decide | (simp only [List.length_set, List.length_cons, List.length_nil, List.length_replicate, List.length_append, Bs_length]; omega) | omega) (by omega) ?_
    clear H; intro w8 H _
    refine nl ?_
    refine then_n ?_
    refine ⟨H.sub (by repeat (first | exact List.Sublist.refl _ | exact List.nil_sublist _ | apply List.Sublist.cons_cons | apply List.Sublist.cons)), ?_⟩
    refine tk (i := 19) rfl (by kernel_rfl) rfl (H.sub (by repeat (first | exact List.Sublist.refl _ | exact List.nil_sublist _ | apply List.Sublist.cons_cons | apply List.Sublist.cons))) (fun w' H => r_ia rfl rfl Tryz.underlying30 sz5_1 (by omega)) ?_
    refine fk (i := 20) (by kernel_rfl) rfl rfl rfl ?_
    refine stb H rfl rfl sc5 (by omega) (by first | decide | (simp only [List.length_set, List.length_cons, List.length_nil, List.length_replicate, List.length_append, Bs_length]; omega) | omega) (by omega) ?_
    clear H; intro w9 H _
    refine nl ?_
    refine then_n ?_
    refine ⟨H.sub (by repeat (first | exact List.Sublist.refl _ | exact List.nil_sublist _ | apply List.Sublist.cons_cons | apply List.Sublist.cons)), ?_⟩
    refine tk (i := 21) rfl (by kernel_rfl) rfl (H.sub (by repeat (first | exact List.Sublist.refl _ | exact List.nil_sublist _ | apply List.Sublist.cons_cons | apply List.Sublist.cons))) (fun w' H => r_ia rfl rfl Tryz.underlying30 sz5_1 (by omega)) ?_
    refine fk (i := 22) (by kernel_rfl) rfl rfl rfl ?_
    refine stb H rfl rfl sc5 (by omega) (by first | decide | (simp only [List.length_set, List.length_cons, List.length_nil, List.length_replicate, List.length_append, Bs_length]; omega) | omega) (by omega) ?_
    clear H; intro w10 H _
    refine nl ?_
    refine then_n ?_
    refine ⟨H.sub (by repeat (first | exact List.Sublist.refl _ | exact List.nil_sublist _ | apply List.Sublist.cons_cons | apply List.Sublist.cons)), ?_⟩
    refine da (by kernel_rfl) ?_
    refine then_n ?_
    refine sq ?_
    refine dr (by kernel_rfl) ?_
    have H := H.drew
    refine hold (fun w' => SH w [b] w' [⟨b2, .cells p.cells.toArray 64 (0, 0), true⟩]) [] ?_
    refine tk (i := 0) rfl (by kernel_rfl) rfl (H.sub (by repeat (first | exact List.Sublist.refl _ | exact List.nil_sublist _ | apply List.Sublist.cons_cons | apply List.Sublist.cons))) (fun w' H => r_mv (v := .slice _ _ _) rfl) ?_
    refine tk (i := 1) rfl (by kernel_rfl) rfl (H.sub (by repeat (first | exact List.Sublist.refl _ | exact List.nil_sublist _ | apply List.Sublist.cons_cons | apply List.Sublist.cons))) (fun w' H => r_mv (v := .slice _ _ _) rfl) ?_
    refine tk (i := 2) rfl (by kernel_rfl) rfl (H.sub (by repeat (first | exact List.Sublist.refl _ | exact List.nil_sublist _ | apply List.Sublist.cons_cons | apply List.Sublist.cons))) (fun w' H => r_mv (v := .slice _ _ _) rfl) ?_
    refine tk (i := 3) rfl (by kernel_rfl) rfl (H.sub (by repeat (first | exact List.Sublist.refl _ | exact List.nil_sublist _ | apply List.Sublist.cons_cons | apply List.Sublist.cons))) (fun w' H => r_fa rfl fo64_5) ?_
    refine tk (i := 4) rfl (by kernel_rfl) rfl (H.sub (by repeat (first | exact List.Sublist.refl _ | exact List.nil_sublist _ | apply List.Sublist.cons_cons | apply List.Sublist.cons))) (fun w' H => r_iy rfl rfl Tryz.underlying62 sz5_1 (by omega)) ?_
    refine tk (i := 5) rfl (by kernel_rfl) rfl (H.sub (by repeat (first | exact List.Sublist.refl _ | exact List.nil_sublist _ | apply List.Sublist.cons_cons | apply List.Sublist.cons))) (fun w' H => r_ld H rfl sc5 rfl) ?_
    refine tk (i := 6) rfl (by kernel_rfl) rfl (H.sub (by repeat (first | exact List.Sublist.refl _ | exact List.nil_sublist _ | apply List.Sublist.cons_cons | apply List.Sublist.cons))) (fun w' H => r_fa rfl fo64_5) ?_
    refine tk (i := 7) rfl (by kernel_rfl) rfl (H.sub (by repeat (first | exact List.Sublist.refl _ | exact List.nil_sublist _ | apply List.Sublist.cons_cons | apply List.Sublist.cons))) (fun w' H => r_iy rfl rfl Tryz.underlying62 sz5_1 (by omega)) ?_
    refine tk (i := 8) rfl (by kernel_rfl) rfl (H.sub (by repeat (first | exact List.Sublist.refl _ | exact List.nil_sublist _ | apply List.Sublist.cons_cons | apply List.Sublist.cons))) (fun w' H => r_ld H rfl sc5 rfl) ?_
    refine tk (i := 9) rfl (by kernel_rfl) rfl (H.sub (by repeat (first | exact List.Sublist.refl _ | exact List.nil_sublist _ | apply List.Sublist.cons_cons | apply List.Sublist.cons))) (fun w' H => r_fa rfl fo64_5) ?_
    refine tk (i := 10) rfl (by kernel_rfl) rfl (H.sub (by repeat (first | exact List.Sublist.refl _ | exact List.nil_sublist _ | apply List.Sublist.cons_cons | apply List.Sublist.cons))) (fun w' H => r_iy rfl rfl Tryz.underlying62 sz5_1 (by omega)) ?_
    refine tk (i := 11) rfl (by kernel_rfl) rfl (H.sub (by repeat (first | exact List.Sublist.refl _ | exact List.nil_sublist _ | apply List.Sublist.cons_cons | apply List.Sublist.cons))) (fun w' H => r_ld H rfl sc5 rfl) ?_
    refine tk (i := 12) rfl (by kernel_rfl) rfl (H.sub (by repeat (first | exact List.Sublist.refl _ | exact List.nil_sublist _ | apply List.Sublist.cons_cons | apply List.Sublist.cons))) (fun w' H => r_ia rfl rfl Tryz.underlying30 sz5_1 (by omega)) ?_
    refine fk (i := 13) (by kernel_rfl) rfl rfl rfl ?_
    refine stb H rfl rfl sc5 (by omega) (by first | decide | (simp only [List.length_set, List.length_cons, List.length_nil, List.length_replicate, List.length_append, Bs_length]; omega) | omega) (by omega) ?_
    clear H; intro w11 H _
    refine nl ?_
    refine then_n ?_
    refine ⟨H.sub (by repeat (first | exact List.Sublist.refl _ | exact List.nil_sublist _ | apply List.Sublist.cons_cons | apply List.Sublist.cons)), ?_⟩
    refine tk (i := 14) rfl (by kernel_rfl) rfl (H.sub (by repeat (first | exact List.Sublist.refl _ | exact List.nil_sublist _ | apply List.Sublist.cons_cons | apply List.Sublist.cons))) (fun w' H => r_ia rfl rfl Tryz.underlying30 sz5_1 (by omega)) ?_
    refine fk (i := 15) (by kernel_rfl) rfl rfl rfl ?_
    refine stb H rfl rfl sc5 (by omega) (by first | decide | (simp only [List.length_set, List.length_cons, List.length_nil, List.length_replicate, List.length_append, Bs_length]; omega) | omega) (by omega) ?_
    clear H; intro w12 H _
    refine nl ?_
    refine then_n ?_
    refine ⟨H.sub (by repeat (first | exact List.Sublist.refl _ | exact List.nil_sublist _ | apply List.Sublist.cons_cons | apply List.Sublist.cons)), ?_⟩
    refine tk (i := 16) rfl (by kernel_rfl) rfl (H.sub (by repeat (first | exact List.Sublist.refl _ | exact List.nil_sublist _ | apply List.Sublist.cons_cons | apply List.Sublist.cons))) (fun w' H => r_ia rfl rfl Tryz.underlying30 sz5_1 (by omega)) ?_
    refine fk (i := 17) (by kernel_rfl) rfl rfl rfl ?_
    refine stb H rfl rfl sc5 (by omega) (by first | decide | (simp only [List.length_set, List.length_cons, List.length_nil, List.length_replicate, List.length_append, Bs_length]; omega) | omega) (by omega) ?_
    clear H; intro w13 H _
    refine nl ?_
    refine then_n ?_
    refine ⟨H.sub (by repeat (first | exact List.Sublist.refl _ | exact List.nil_sublist _ | apply List.Sublist.cons_cons | apply List.Sublist.cons)), ?_⟩
    refine da (by kernel_rfl) ?_
    refine then_n ?_
    refine sq ?_
    refine dr (by kernel_rfl) ?_
    have H := H.drew
    refine hold (fun w' => SH w [b] w' [⟨b2, .cells p.cells.toArray 64 (0, 0), true⟩]) [] ?_
    refine tk (i := 0) rfl (by kernel_rfl) rfl (H.sub (by repeat (first | exact List.Sublist.refl _ | exact List.nil_sublist _ | apply List.Sublist.cons_cons | apply List.Sublist.cons))) (fun w' H => r_mv (v := .slice _ _ _) rfl) ?_
    refine tk (i := 1) rfl (by kernel_rfl) rfl (H.sub (by repeat (first | exact List.Sublist.refl _ | exact List.nil_sublist _ | apply List.Sublist.cons_cons | apply List.Sublist.cons))) (fun w' H => r_sllh rfl rfl rfl Tryz.underlying30 sz5_1 (by first | trivial | omega | (simp; omega))) ?_
    refine tk (i := 2) rfl (by kernel_rfl) rfl (H.sub (by repeat (first | exact List.Sublist.refl _ | exact List.nil_sublist _ | apply List.Sublist.cons_cons | apply List.Sublist.cons))) (fun w' H => r_fa rfl fo64_3) ?_
    refine tk (i := 3) rfl (by kernel_rfl) rfl (H.sub (by repeat (first | exact List.Sublist.refl _ | exact List.nil_sublist _ | apply List.Sublist.cons_cons | apply List.Sublist.cons))) (fun w' H => r_ld H rfl sc58 rfl) ?_
    refine tk (i := 4) rfl (by kernel_rfl) rfl (H.sub (by repeat (first | exact List.Sublist.refl _ | exact List.nil_sublist _ | apply List.Sublist.cons_cons | apply List.Sublist.cons))) (fun w' H => r_cvi rfl rfl Tryz.underlying28 (by first | exact w_u64 (by omega) | exact w_u64 (rng_u64 _) | exact m_u64 _)) ?_
    refine fk (i := 5) (by kernel_rfl) rfl rfl rfl ?_
    refine cl ca45 (c_putLe _ _ _ _ _ _ _ _ H.look (by first | omega | ((try simp only [pAt_length, leB_len, gB_len, List.length_set, List.length_replicate]); omega)) (by omega)) rfl ?_
    rintro _ w14 ⟨rfl, hlen, F, hnew⟩
    replace H := H.put F hnew; clear F hnew
    refine nl ?_
    refine then_n ?_
    refine ⟨H.sub (by repeat (first | exact List.Sublist.refl _ | exact List.nil_sublist _ | apply List.Sublist.cons_cons | apply List.Sublist.cons)), ?_⟩
    refine da (by kernel_rfl) ?_
    refine then_n ?_
    refine dr (by kernel_rfl) ?_
    have H := H.drew
    refine hold (fun w' => SH w [b] w' [⟨b2, .cells p.cells.toArray 64 (0, 0), true⟩]) [] ?_
    refine tk (i := 0) rfl (by kernel_rfl) rfl (H.sub (by repeat (first | exact List.Sublist.refl _ | exact List.nil_sublist _ | apply List.Sublist.cons_cons | apply List.Sublist.cons))) (fun w' H => r_mv (v := .slice _ _ _) rfl) ?_
    refine tk (i := 1) rfl (by kernel_rfl) rfl (H.sub (by repeat (first | exact List.Sublist.refl _ | exact List.nil_sublist _ | apply List.Sublist.cons_cons | apply List.Sublist.cons))) (fun w' H => r_sllh rfl rfl rfl Tryz.underlying30 sz5_1 (by first | trivial | omega | (simp; omega))) ?_
    refine tk (i := 2) rfl (by kernel_rfl) rfl (H.sub (by repeat (first | exact List.Sublist.refl _ | exact List.nil_sublist _ | apply List.Sublist.cons_cons | apply List.Sublist.cons))) (fun w' H => r_fa rfl fo64_4) ?_
    refine tk (i := 3) rfl (by kernel_rfl) rfl (H.sub (by repeat (first | exact List.Sublist.refl _ | exact List.nil_sublist _ | apply List.Sublist.cons_cons | apply List.Sublist.cons))) (fun w' H => r_ld H rfl sc58 rfl) ?_
    refine tk (i := 4) rfl (by kernel_rfl) rfl (H.sub (by repeat (first | exact List.Sublist.refl _ | exact List.nil_sublist _ | apply List.Sublist.cons_cons | apply List.Sublist.cons))) (fun w' H => r_cvi rfl rfl Tryz.underlying28 (by first | exact w_u64 (by omega) | exact w_u64 (rng_u64 _) | exact m_u64 _)) ?_
    refine fk (i := 5) (by kernel_rfl) rfl rfl rfl ?_
    refine cl ca45 (c_putLe _ _ _ _ _ _ _ _ H.look (by first | omega | ((try simp only [pAt_length, leB_len, gB_len, List.length_set, List.length_replicate]); omega)) (by omega)) rfl ?_
    rintro _ w15 ⟨rfl, hlen, F, hnew⟩
    replace H := H.put F hnew; clear F hnew
    refine nl ?_
    refine then_n ?_
    refine ⟨H.sub (by repeat (first | exact List.Sublist.refl _ | exact List.nil_sublist _ | apply List.Sublist.cons_cons | apply List.Sublist.cons)), ?_⟩
    refine da (by kernel_rfl) ?_
    refine in_n ?_
    refine then_n ?_
    refine rg ?_
    refine add rfl rfl (by first | exact w_i64 (by omega) | exact w_i64 (rng_i64 _) | rfl) rfl ?_
    refine mv (v := .int .i64 _) rfl rfl ?_
    refine nl ?_
    refine loop_n ?_
    exact ⟨i + 1, (by (try dsimp only); omega), ⟨by omega, sh_bytes H.drop ((entry_put (X := pAt ds 446 ((ps.take i).flatMap MP.bytes)) (o := 446 + 16 * i) (by omega) (set_set_eq (by omega) (by omega) (by simp [hc2])) (by omega) (by omega) (by omega) (by omega) (by omega) (by omega) (by omega) (by omega) (by omega) (leB_len 4 _) (leB_len 4 _)).trans (entry_at hp (by omega) hd))⟩, (fC (by first | rfl | exact congrArg (Value.int _) (by first | omega | assumption | (symm; assumption) | (simp; done) | (simp; omega)) | exact congrArg (fun n => Value.slice _ n _) (by first | omega | (simp; done) | (simp; omega))) (fN _)), (by repeat (first | exact Agree.setL rfl Agree.mask | exact Agree.self _ _ | refine Agree.upd rfl ?_ | refine Agree.setL rfl ?_ | refine Agree.mask2 rfl ?_))⟩
   ·refine sk ?_
    refine then_n ?_
    refine sq ?_
    refine dr (by kernel_rfl) ?_
    have H := H.drew
    refine hold (fun w' => SH w [b] w' [⟨b2, .cells p.cells.toArray 64 (0, 0), true⟩]) [] ?_
    refine tk (i := 0) rfl (by kernel_rfl) rfl (H.sub (by repeat (first | exact List.Sublist.refl _ | exact List.nil_sublist _ | apply List.Sublist.cons_cons | apply List.Sublist.cons))) (fun w' H => r_mv (v := .slice _ _ _) rfl) ?_
    refine tk (i := 1) rfl (by kernel_rfl) rfl (H.sub (by repeat (first | exact List.Sublist.refl _ | exact List.nil_sublist _ | apply List.Sublist.cons_cons | apply List.Sublist.cons))) (fun w' H => r_mv (v := .slice _ _ _) rfl) ?_
    refine tk (i := 2) rfl (by kernel_rfl) rfl (H.sub (by repeat (first | exact List.Sublist.refl _ | exact List.nil_sublist _ | apply List.Sublist.cons_cons | apply List.Sublist.cons))) (fun w' H => r_mv (v := .slice _ _ _) rfl) ?_
    refine tk (i := 3) rfl (by kernel_rfl) rfl (H.sub (by repeat (first | exact List.Sublist.refl _ | exact List.nil_sublist _ | apply List.Sublist.cons_cons | apply List.Sublist.cons))) (fun w' H => r_mv (v := .slice _ _ _) rfl) ?_
    refine tk (i := 4) rfl (by kernel_rfl) rfl (H.sub (by repeat (first | exact List.Sublist.refl _ | exact List.nil_sublist _ | apply List.Sublist.cons_cons | apply List.Sublist.cons))) (fun w' H => r_fa rfl fo64_5) ?_
    refine tk (i := 5) rfl (by kernel_rfl) rfl (H.sub (by repeat (first | exact List.Sublist.refl _ | exact List.nil_sublist _ | apply List.Sublist.cons_cons | apply List.Sublist.cons))) (fun w' H => r_iy rfl rfl Tryz.underlying62 sz5_1 (by omega)) ?_
    refine tk (i := 6) rfl (by kernel_rfl) rfl (H.sub (by repeat (first | exact List.Sublist.refl _ | exact List.nil_sublist _ | apply List.Sublist.cons_cons | apply List.Sublist.cons))) (fun w' H => r_ld H rfl sc5 rfl) ?_
    refine tk (i := 7) rfl (by kernel_rfl) rfl (H.sub (by repeat (first | exact List.Sublist.refl _ | exact List.nil_sublist _ | apply List.Sublist.cons_cons | apply List.Sublist.cons))) (fun w' H => r_fa rfl fo64_5) ?_
    refine tk (i := 8) rfl (by kernel_rfl) rfl (H.sub (by repeat (first | exact List.Sublist.refl _ | exact List.nil_sublist _ | apply List.Sublist.cons_cons | apply List.Sublist.cons))) (fun w' H => r_iy rfl rfl Tryz.underlying62 sz5_1 (by omega)) ?_
    refine tk (i := 9) rfl (by kernel_rfl) rfl (H.sub (by repeat (first | exact List.Sublist.refl _ | exact List.nil_sublist _ | apply List.Sublist.cons_cons | apply List.Sublist.cons))) (fun w' H => r_ld H rfl sc5 rfl) ?_
    refine tk (i := 10) rfl (by kernel_rfl) rfl (H.sub (by repeat (first | exact List.Sublist.refl _ | exact List.nil_sublist _ | apply List.Sublist.cons_cons | apply List.Sublist.cons))) (fun w' H => r_fa rfl fo64_5) ?_
    refine tk (i := 11) rfl (by kernel_rfl) rfl (H.sub (by repeat (first | exact List.Sublist.refl _ | exact List.nil_sublist _ | apply List.Sublist.cons_cons | apply List.Sublist.cons))) (fun w' H => r_iy rfl rfl Tryz.underlying62 sz5_1 (by omega)) ?_
    refine tk (i := 12) rfl (by kernel_rfl) rfl (H.sub (by repeat (first | exact List.Sublist.refl _ | exact List.nil_sublist _ | apply List.Sublist.cons_cons | apply List.Sublist.cons))) (fun w' H => r_ld H rfl sc5 rfl) ?_
    refine tk (i := 13) rfl (by kernel_rfl) rfl (H.sub (by repeat (first | exact List.Sublist.refl _ | exact List.nil_sublist _ | apply List.Sublist.cons_cons | apply List.Sublist.cons))) (fun w' H => r_fa rfl fo64_2) ?_
    refine tk (i := 14) rfl (by kernel_rfl) rfl (H.sub (by repeat (first | exact List.Sublist.refl _ | exact List.nil_sublist _ | apply List.Sublist.cons_cons | apply List.Sublist.cons))) (fun w' H => r_ld H rfl sc5 rfl) ?_
    refine tk (i := 15) rfl (by kernel_rfl) rfl (H.sub (by repeat (first | exact List.Sublist.refl _ | exact List.nil_sublist _ | apply List.Sublist.cons_cons | apply List.Sublist.cons))) (fun w' H => r_ia rfl rfl Tryz.underlying30 sz5_1 (by omega)) ?_
    refine fk (i := 16) (by kernel_rfl) rfl rfl rfl ?_
    refine stb H rfl rfl sc5 (by omega) (by first | decide | (simp only [List.length_set, List.length_cons, List.length_nil, List.length_replicate, List.length_append, Bs_length]; omega) | omega) (by omega) ?_
    clear H; intro w16 H _
    refine nl ?_
    refine then_n ?_
    refine ⟨H.sub (by repeat (first | exact List.Sublist.refl _ | exact List.nil_sublist _ | apply List.Sublist.cons_cons | apply List.Sublist.cons)), ?_⟩
    refine tk (i := 17) rfl (by kernel_rfl) rfl (H.sub (by repeat (first | exact List.Sublist.refl _ | exact List.nil_sublist _ | apply List.Sublist.cons_cons | apply List.Sublist.cons))) (fun w' H => r_ia rfl rfl Tryz.underlying30 sz5_1 (by omega)) ?_
    refine fk (i := 18) (by kernel_rfl) rfl rfl rfl ?_
    refine stb H rfl rfl sc5 (by omega) (by first | decide | (simp only [List.length_set, List.length_cons, List.length_nil, List.length_replicate, List.length_append, Bs_length]; omega) | omega) (by omega) ?_
    clear H; intro w17 H _
    refine nl ?_
    refine then_n ?_
    refine ⟨H.sub (by repeat (first | exact List.Sublist.refl _ | exact List.nil_sublist _ | apply List.Sublist.cons_cons | apply List.Sublist.cons)), ?_⟩
    refine tk (i := 19) rfl (by kernel_rfl) rfl (H.sub (by repeat (first | exact List.Sublist.refl _ | exact List.nil_sublist _ | apply List.Sublist.cons_cons | apply List.Sublist.cons))) (fun w' H => r_ia rfl rfl Tryz.underlying30 sz5_1 (by omega)) ?_
    refine fk (i := 20) (by kernel_rfl) rfl rfl rfl ?_
    refine stb H rfl rfl sc5 (by omega) (by first | decide | (simp only [List.length_set, List.length_cons, List.length_nil, List.length_replicate, List.length_append, Bs_length]; omega) | omega) (by omega) ?_
    clear H; intro w18 H _
    refine nl ?_
    refine then_n ?_
    refine ⟨H.sub (by repeat (first | exact List.Sublist.refl _ | exact List.nil_sublist _ | apply List.Sublist.cons_cons | apply List.Sublist.cons)), ?_⟩
    refine tk (i := 21) rfl (by kernel_rfl) rfl (H.sub (by repeat (first | exact List.Sublist.refl _ | exact List.nil_sublist _ | apply List.Sublist.cons_cons | apply List.Sublist.cons))) (fun w' H => r_ia rfl rfl Tryz.underlying30 sz5_1 (by omega)) ?_
    refine fk (i := 22) (by kernel_rfl) rfl rfl rfl ?_
    refine stb H rfl rfl sc5 (by omega) (by first | decide | (simp only [List.length_set, List.length_cons, List.length_nil, List.length_replicate, List.length_append, Bs_length]; omega) | omega) (by omega) ?_
    clear H; intro w19 H _
    refine nl ?_
    refine then_n ?_
    refine ⟨H.sub (by repeat (first | exact List.Sublist.refl _ | exact List.nil_sublist _ | apply List.Sublist.cons_cons | apply List.Sublist.cons)), ?_⟩
    refine da (by kernel_rfl) ?_
    refine then_n ?_
    refine sq ?_
    refine dr (by kernel_rfl) ?_
    have H := H.drew
    refine hold (fun w' => SH w [b] w' [⟨b2, .cells p.cells.toArray 64 (0, 0), true⟩]) [] ?_
    refine tk (i := 0) rfl (by kernel_rfl) rfl (H.sub (by repeat (first | exact List.Sublist.refl _ | exact List.nil_sublist _ | apply List.Sublist.cons_cons | apply List.Sublist.cons))) (fun w' H => r_mv (v := .slice _ _ _) rfl) ?_
    refine tk (i := 1) rfl (by kernel_rfl) rfl (H.sub (by repeat (first | exact List.Sublist.refl _ | exact List.nil_sublist _ | apply List.Sublist.cons_cons | apply List.Sublist.cons))) (fun w' H => r_mv (v := .slice _ _ _) rfl) ?_
    refine tk (i := 2) rfl (by kernel_rfl) rfl (H.sub (by repeat (first | exact List.Sublist.refl _ | exact List.nil_sublist _ | apply List.Sublist.cons_cons | apply List.Sublist.cons))) (fun w' H => r_mv (v := .slice _ _ _) rfl) ?_
    refine tk (i := 3) rfl (by kernel_rfl) rfl (H.sub (by repeat (first | exact List.Sublist.refl _ | exact List.nil_sublist _ | apply List.Sublist.cons_cons | apply List.Sublist.cons))) (fun w' H => r_fa rfl fo64_5) ?_
    refine tk (i := 4) rfl (by kernel_rfl) rfl (H.sub (by repeat (first | exact List.Sublist.refl _ | exact List.nil_sublist _ | apply List.Sublist.cons_cons | apply List.Sublist.cons))) (fun w' H => r_iy rfl rfl Tryz.underlying62 sz5_1 (by omega)) ?_
    refine tk (i := 5) rfl (by kernel_rfl) rfl (H.sub (by repeat (first | exact List.Sublist.refl _ | exact List.nil_sublist _ | apply List.Sublist.cons_cons | apply List.Sublist.cons))) (fun w' H => r_ld H rfl sc5 rfl) ?_
    refine tk (i := 6) rfl (by kernel_rfl) rfl (H.sub (by repeat (first | exact List.Sublist.refl _ | exact List.nil_sublist _ | apply List.Sublist.cons_cons | apply List.Sublist.cons))) (fun w' H => r_fa rfl fo64_5) ?_
    refine tk (i := 7) rfl (by kernel_rfl) rfl (H.sub (by repeat (first | exact List.Sublist.refl _ | exact List.nil_sublist _ | apply List.Sublist.cons_cons | apply List.Sublist.cons))) (fun w' H => r_iy rfl rfl Tryz.underlying62 sz5_1 (by omega)) ?_
    refine tk (i := 8) rfl (by kernel_rfl) rfl (H.sub (by repeat (first | exact List.Sublist.refl _ | exact List.nil_sublist _ | apply List.Sublist.cons_cons | apply List.Sublist.cons))) (fun w' H => r_ld H rfl sc5 rfl) ?_
    refine tk (i := 9) rfl (by kernel_rfl) rfl (H.sub (by repeat (first | exact List.Sublist.refl _ | exact List.nil_sublist _ | apply List.Sublist.cons_cons | apply List.Sublist.cons))) (fun w' H => r_fa rfl fo64_5) ?_
    refine tk (i := 10) rfl (by kernel_rfl) rfl (H.sub (by repeat (first | exact List.Sublist.refl _ | exact List.nil_sublist _ | apply List.Sublist.cons_cons | apply List.Sublist.cons))) (fun w' H => r_iy rfl rfl Tryz.underlying62 sz5_1 (by omega)) ?_
    refine tk (i := 11) rfl (by kernel_rfl) rfl (H.sub (by repeat (first | exact List.Sublist.refl _ | exact List.nil_sublist _ | apply List.Sublist.cons_cons | apply List.Sublist.cons))) (fun w' H => r_ld H rfl sc5 rfl) ?_
    refine tk (i := 12) rfl (by kernel_rfl) rfl (H.sub (by repeat (first | exact List.Sublist.refl _ | exact List.nil_sublist _ | apply List.Sublist.cons_cons | apply List.Sublist.cons))) (fun w' H => r_ia rfl rfl Tryz.underlying30 sz5_1 (by omega)) ?_
    refine fk (i := 13) (by kernel_rfl) rfl rfl rfl ?_
    refine stb H rfl rfl sc5 (by omega) (by first | decide | (simp only [List.length_set, List.length_cons, List.length_nil, List.length_replicate, List.length_append, Bs_length]; omega) | omega) (by omega) ?_
    clear H; intro w20 H _
    refine nl ?_
    refine then_n ?_
    refine ⟨H.sub (by repeat (first | exact List.Sublist.refl _ | exact List.nil_sublist _ | apply List.Sublist.cons_cons | apply List.Sublist.cons)), ?_⟩
    refine tk (i := 14) rfl (by kernel_rfl) rfl (H.sub (by repeat (first | exact List.Sublist.refl _ | exact List.nil_sublist _ | apply List.Sublist.cons_cons | apply List.Sublist.cons))) (fun w' H => r_ia rfl rfl Tryz.underlying30 sz5_1 (by omega)) ?_
    refine fk (i := 15) (by kernel_rfl) rfl rfl rfl ?_
    refine stb H rfl rfl sc5 (by omega) (by first | decide | (simp only [List.length_set, List.length_cons, List.length_nil, List.length_replicate, List.length_append, Bs_length]; omega) | omega) (by omega) ?_
    clear H; intro w21 H _
    refine nl ?_
    refine then_n ?_
    refine ⟨H.sub (by repeat (first | exact List.Sublist.refl _ | exact List.nil_sublist _ | apply List.Sublist.cons_cons | apply List.Sublist.cons)), ?_⟩
    refine tk (i := 16) rfl (by kernel_rfl) rfl (H.sub (by repeat (first | exact List.Sublist.refl _ | exact List.nil_sublist _ | apply List.Sublist.cons_cons | apply List.Sublist.cons))) (fun w' H => r_ia rfl rfl Tryz.underlying30 sz5_1 (by omega)) ?_
    refine fk (i := 17) (by kernel_rfl) rfl rfl rfl ?_
    refine stb H rfl rfl sc5 (by omega) (by first | decide | (simp only [List.length_set, List.length_cons, List.length_nil, List.length_replicate, List.length_append, Bs_length]; omega) | omega) (by omega) ?_
    clear H; intro w22 H _
    refine nl ?_
    refine then_n ?_
    refine ⟨H.sub (by repeat (first | exact List.Sublist.refl _ | exact List.nil_sublist _ | apply List.Sublist.cons_cons | apply List.Sublist.cons)), ?_⟩
    refine da (by kernel_rfl) ?_
    refine then_n ?_
    refine sq ?_
    refine dr (by kernel_rfl) ?_
    have H := H.drew
    refine hold (fun w' => SH w [b] w' [⟨b2, .cells p.cells.toArray 64 (0, 0), true⟩]) [] ?_
    refine tk (i := 0) rfl (by kernel_rfl) rfl (H.sub (by repeat (first | exact List.Sublist.refl _ | exact List.nil_sublist _ | apply List.Sublist.cons_cons | apply List.Sublist.cons))) (fun w' H => r_mv (v := .slice _ _ _) rfl) ?_
    refine tk (i := 1) rfl (by kernel_rfl) rfl (H.sub (by repeat (first | exact List.Sublist.refl _ | exact List.nil_sublist _ | apply List.Sublist.cons_cons | apply List.Sublist.cons))) (fun w' H => r_sllh rfl rfl rfl Tryz.underlying30 sz5_1 (by first | trivial | omega | (simp; omega))) ?_
    refine tk (i := 2) rfl (by kernel_rfl) rfl (H.sub (by repeat (first | exact List.Sublist.refl _ | exact List.nil_sublist _ | apply List.Sublist.cons_cons | apply List.Sublist.cons))) (fun w' H => r_fa rfl fo64_3) ?_
    refine tk (i := 3) rfl (by kernel_rfl) rfl (H.sub (by repeat (first | exact List.Sublist.refl _ | exact List.nil_sublist _ | apply List.Sublist.cons_cons | apply List.Sublist.cons))) (fun w' H => r_ld H rfl sc58 rfl) ?_
    refine tk (i := 4) rfl (by kernel_rfl) rfl (H.sub (by repeat (first | exact List.Sublist.refl _ | exact List.nil_sublist _ | apply List.Sublist.cons_cons | apply List.Sublist.cons))) (fun w' H => r_cvi rfl rfl Tryz.underlying28 (by first | exact w_u64 (by omega) | exact w_u64 (rng_u64 _) | exact m_u64 _)) ?_
    refine fk (i := 5) (by kernel_rfl) rfl rfl rfl ?_
    refine cl ca45 (c_putLe _ _ _ _ _ _ _ _ H.look (by first | omega | ((try simp only [pAt_length, leB_len, gB_len, List.length_set, List.length_replicate]); omega)) (by omega)) rfl ?_
    rintro _ w23 ⟨rfl, hlen, F, hnew⟩
    replace H := H.put F hnew; clear F hnew
    refine nl ?_
    refine then_n ?_
    refine ⟨H.sub (by repeat (first | exact List.Sublist.refl _ | exact List.nil_sublist _ | apply List.Sublist.cons_cons | apply List.Sublist.cons)), ?_⟩
    refine da (by kernel_rfl) ?_
    refine then_n ?_
    refine dr (by kernel_rfl) ?_
    have H := H.drew
    refine hold (fun w' => SH w [b] w' [⟨b2, .cells p.cells.toArray 64 (0, 0), true⟩]) [] ?_
    refine tk (i := 0) rfl (by kernel_rfl) rfl (H.sub (by repeat (first | exact List.Sublist.refl _ | exact List.nil_sublist _ | apply List.Sublist.cons_cons | apply List.Sublist.cons))) (fun w' H => r_mv (v := .slice _ _ _) rfl) ?_
    refine tk (i := 1) rfl (by kernel_rfl) rfl (H.sub (by repeat (first | exact List.Sublist.refl _ | exact List.nil_sublist _ | apply List.Sublist.cons_cons | apply List.Sublist.cons))) (fun w' H => r_sllh rfl rfl rfl Tryz.underlying30 sz5_1 (by first | trivial | omega | (simp; omega))) ?_
    refine tk (i := 2) rfl (by kernel_rfl) rfl (H.sub (by repeat (first | exact List.Sublist.refl _ | exact List.nil_sublist _ | apply List.Sublist.cons_cons | apply List.Sublist.cons))) (fun w' H => r_fa rfl fo64_4) ?_
    refine tk (i := 3) rfl (by kernel_rfl) rfl (H.sub (by repeat (first | exact List.Sublist.refl _ | exact List.nil_sublist _ | apply List.Sublist.cons_cons | apply List.Sublist.cons))) (fun w' H => r_ld H rfl sc58 rfl) ?_
    refine tk (i := 4) rfl (by kernel_rfl) rfl (H.sub (by repeat (first | exact List.Sublist.refl _ | exact List.nil_sublist _ | apply List.Sublist.cons_cons | apply List.Sublist.cons))) (fun w' H => r_cvi rfl rfl Tryz.underlying28 (by first | exact w_u64 (by omega) | exact w_u64 (rng_u64 _) | exact m_u64 _)) ?_
    refine fk (i := 5) (by kernel_rfl) rfl rfl rfl ?_
    refine cl ca45 (c_putLe _ _ _ _ _ _ _ _ H.look (by first | omega | ((try simp only [pAt_length, leB_len, gB_len, List.length_set, List.length_replicate]); omega)) (by omega)) rfl ?_
    rintro _ w24 ⟨rfl, hlen, F, hnew⟩
    replace H := H.put F hnew; clear F hnew
    refine nl ?_
    refine then_n ?_
    refine ⟨H.sub (by repeat (first | exact List.Sublist.refl _ | exact List.nil_sublist _ | apply List.Sublist.cons_cons | apply List.Sublist.cons)), ?_⟩
    refine da (by kernel_rfl) ?_
    refine in_n ?_
    refine then_n ?_
    refine rg ?_
    refine add rfl rfl (by first | exact w_i64 (by omega) | exact w_i64 (rng_i64 _) | rfl) rfl ?_
    refine mv (v := .int .i64 _) rfl rfl ?_
    refine nl ?_
    refine loop_n ?_
    exact ⟨i + 1, (by (try dsimp only); omega), ⟨by omega, sh_bytes H.drop ((entry_put (X := pAt ds 446 ((ps.take i).flatMap MP.bytes)) (o := 446 + 16 * i) (by omega) (set_eq (by omega) (by simp [hc2])) (by omega) (by omega) (by omega) (by omega) (by omega) (by omega) (by omega) (by omega) (by omega) (leB_len 4 _) (leB_len 4 _)).trans (entry_at hp (by omega) hd))⟩, (fC (by first | rfl | exact congrArg (Value.int _) (by first | omega | assumption | (symm; assumption) | (simp; done) | (simp; omega)) | exact congrArg (fun n => Value.slice _ n _) (by first | omega | (simp; done) | (simp; omega))) (fN _)), (by repeat (first | exact Agree.setL rfl Agree.mask | exact Agree.self _ _ | refine Agree.upd rfl ?_ | refine Agree.setL rfl ?_ | refine Agree.mask2 rfl ?_))⟩
  ·refine ex ?_
   refine then_e ?_
   refine loop_e ?_
   refine in_hit rfl ?_
   refine then_n ?_
   refine rg ?_
   refine mv (v := .slice _ _ _) rfl rfl ?_
   refine mv (v := .slice _ _ _) rfl rfl ?_
   refine ia rfl rfl Tryz.underlying30 sz5_1 (by omega) rfl ?_
   refine stb H rfl rfl sc5 (by omega) (by first | decide | (simp only [List.length_set, List.length_cons, List.length_nil, List.length_replicate, List.length_append, Bs_length]; omega) | omega) (by omega) ?_
   clear H; intro w25 H _
   refine ia rfl rfl Tryz.underlying30 sz5_1 (by omega) rfl ?_
   refine stb H rfl rfl sc5 (by omega) (by first | decide | (simp only [List.length_set, List.length_cons, List.length_nil, List.length_replicate, List.length_append, Bs_length]; omega) | omega) (by omega) ?_
   clear H; intro w26 H _
   refine nl ?_
   refine fin_n ?_
   have hl : (mbrB ds ps).length = ds.length := by
     unfold mbrB
     exact pAt_len (by rw [List.length_append, flat_len MP.bytes_len, h4]; simp; omega)
   exact ⟨rfl, hl, H.fr, H.look.trans (congrArg (fun l => some (Obj.cells (Bs l).toArray T (0, 0))) (mbr_end h4 hd (by omega)))⟩

set_option maxRecDepth 100000 in
set_option maxHeartbeats 1000000 in
theorem c_bytesEqual (w : World) (A A2 : Option Addr) (n c n2 c2 : Nat) (xs ys : List UInt8) (hx : RB w A n xs) (hy : RB w A2 n2 ys) : Calls Tryz.prog 94 #[.slice A n c, .slice A2 n2 c2] w (Ret fun v w' => v = .bool (decide (xs = ys)) ∧ Fr [] w w') := by
 refine enter (fun ρ => ρ 4) Tryz.func94 rfl rfl rfl (res1 rfl) ?_
 have H := SH.nil w
 refine sq ?_
 refine rg ?_
 refine asg (v := .bool _) rfl rfl ?_
 refine nl ?_
 refine then_n ?_
 refine sq ?_
 refine rg ?_
 refine mv (v := .slice _ _ _) rfl rfl ?_
 refine cvBS rfl (by first | exact hx | exact hy) Tryz.underlying30 Tryz.underlying5 Tryz.underlying9 rfl ?_
 refine mv (v := .slice _ _ _) rfl rfl ?_
 refine cvBS rfl (by first | exact hx | exact hy) Tryz.underlying30 Tryz.underlying5 Tryz.underlying9 rfl ?_
 refine eqlT rfl rfl rfl ?_
 refine asg (v := .bool _) rfl rfl ?_
 refine nl ?_
 refine then_n ?_
 refine rt ?_
 refine fin_r ?_
 exact ⟨rfl, H.fr⟩

set_option maxRecDepth 100000 in
set_option maxHeartbeats 1000000 in
theorem c_partDisk (w : World) (s z : Nat) (x : Int) (hx : 0 ≤ x ∧ x ≤ 255) (hs : s * z ≤ 100000000) (hs2 : s ≤ 100000000 ∧ z ≤ 100000000) : Calls Tryz.prog 11 #[.int .i64 (s : Int), .int .i64 (z : Int), .int .u8 x] w (Ret fun v w' => ∃ b ds, v = .slice (some ⟨b, 0, none⟩) (s * z) (s * z) ∧ ds.length = s * z ∧ w.heap.size ≤ b ∧ w'.heap[b]? = some (.cells (Bs ds).toArray 5 (0, 0)) ∧ Fr [] w w') := by
 refine enter (fun ρ => ρ 6) Tryz.func11 rfl rfl rfl (res1 rfl) ?_
 have H := SH.nil w
 have hm : (s : Int) * (z : Int) = ((s * z : Nat) : Int) := by simp
 generalize hn : s * z = n at hm hs
 refine sq ?_
 refine rg ?_
 refine asg (v := .slice _ _ _) rfl rfl ?_
 refine nl ?_
 refine then_n ?_
 refine sq ?_
 refine rg ?_
 refine mv (v := .int .i64 _) rfl rfl ?_
 refine mv (v := .int .i64 _) rfl rfl ?_
 refine mul (c := (n : Int)) rfl rfl (by rw [hm]; exact w_i64 (by omega)) rfl ?_
 refine mkB H rfl rfl Tryz.underlying30 mi5 (by omega) (by omega) (by omega) (by omega) rfl ?_
 clear H; intro b1 w1 hb1 H _
 refine asg (v := .slice _ _ _) rfl rfl ?_
 refine nl ?_
 refine then_n ?_
 refine sq ?_
 refine sq ?_
 refine rg ?_
 refine mv (v := .int .u8 _) rfl rfl ?_
 refine eql rfl rfl rfl ?_
 refine nl ?_
 refine then_n ?_
 refine cd rfl (fun hc1 => ?_) (fun hc1 => ?_)
 ·refine sq ?_
  refine rg ?_
  refine mv (v := .slice _ _ _) rfl rfl ?_
  refine asg (v := .slice _ _ _) rfl rfl ?_
  refine nl ?_
  refine then_n ?_
  refine rt ?_
  refine then_r ?_
  refine fin_r ?_
  exact ⟨_, _, rfl, by simp, H.ge, H.look, H.fr⟩
 ·refine sk ?_
  refine then_n ?_
  refine sq ?_
  refine rg ?_
  refine mv (v := .int .u8 _) rfl rfl ?_
  refine cvi rfl rfl Tryz.underlying58 (by first | exact w_u32 (by omega) | exact w_u32 (rng_u32 _) | exact m_u32 _) rfl ?_
  refine asg (v := .int .u32 _) rfl rfl ?_
  refine nl ?_
  refine then_n ?_
  refine sq ?_
  refine sq ?_
  refine rg ?_
  refine mv (v := .slice _ _ _) rfl rfl ?_
  refine lnS rfl Tryz.underlying30 rfl ?_
  refine mv (v := .int .i64 _) rfl rfl ?_
  refine nl ?_
  refine then_n ?_
  refine bk ?_
  refine lpM (α := Nat × Int × List UInt8) [8, 9, 21, 22, 23, 24, 25, 26, 27, 28, 29, 30, 31, 32, 33] (fun (i, y, ds) => [(8, .int .u32 y), (21, .int .i64 (i : Int))]) (fun (i, y, ds) w' => i ≤ n ∧ ds.length = n ∧ SH w [] w' [⟨b1, .cells (Bs ds).toArray 5 (0, 0), true⟩]) (fun (i, y, ds) => n - i) (0, x, List.replicate ((n : Int)).toNat 0) ?_ (fC (by first | rfl | exact congrArg (Value.int _) (by first | omega | assumption | (symm; assumption) | (simp; done) | (simp; omega)) | exact congrArg (fun n => Value.slice _ n _) (by first | omega | (simp; done) | (simp; omega))) (fC (by first | rfl | exact congrArg (Value.int _) (by first | omega | assumption | (symm; assumption) | (simp; done) | (simp; omega)) | exact congrArg (fun n => Value.slice _ n _) (by first | omega | (simp; done) | (simp; omega))) (fN _))) ?_
  ·exact ⟨by omega, by simp, H⟩
  ·rintro ⟨i, y, ds⟩ ρx w2 ⟨hi, hl, H⟩
   refine sq ?_
   refine rg ?_
   refine lss rfl rfl rfl ?_
   refine nl ?_
   refine then_n ?_
   refine sq ?_
   refine cd rfl (fun hc2 => ?_) (fun hc2 => ?_)
   ·refine sk ?_
    refine then_n ?_
    refine sq ?_
    refine bk ?_
    refine sq ?_
    refine rg ?_
    refine mv (v := .int .i64 _) rfl rfl ?_
    refine asg (v := .int .i64 _) rfl rfl ?_
    refine nl ?_
    refine then_n ?_
    refine sq ?_
    refine rg ?_
    refine mv (v := .int .u32 _) rfl rfl ?_
    refine mul rfl rfl (by first | exact w_u32 (by omega) | exact w_u32 (rng_u32 _) | exact m_u32 _) rfl ?_
    refine add rfl rfl (by first | exact w_u32 (by omega) | exact w_u32 (rng_u32 _) | exact m_u32 _) rfl ?_
    refine asg (v := .int .u32 _) rfl rfl ?_
    refine nl ?_
    refine then_n ?_
    refine rg ?_
    refine mv (v := .slice _ _ _) rfl rfl ?_
    refine mv (v := .int .i64 _) rfl rfl ?_
    refine mv (v := .int .u32 _) rfl rfl ?_
    refine shrK (s := 24) (p := 16777216) rfl rfl (by decide) (by decide) rfl rfl ?_
    refine cvi rfl rfl Tryz.underlying5 (by first | exact w_u8 (by omega) | exact w_u8 (rng_u8 _) | exact m_u8 _) rfl ?_
    refine ia rfl rfl Tryz.underlying30 sz5_1 (by omega) rfl ?_
    refine stb H rfl rfl sc5 (by omega) (by first | decide | (simp only [List.length_set, List.length_cons, List.length_nil, List.length_replicate, List.length_append, Bs_length]; omega) | omega) (by omega) ?_
    clear H; intro w3 H _
    refine nl ?_
    refine in_n ?_
    refine then_n ?_
    refine rg ?_
    refine add rfl rfl (by first | exact w_i64 (by omega) | exact w_i64 (rng_i64 _) | rfl) rfl ?_
    refine mv (v := .int .i64 _) rfl rfl ?_
    refine nl ?_
    refine loop_n ?_
    exact ⟨(i + 1, _, _), (by (try dsimp only); omega), ⟨by omega, by rw [List.length_set]; exact hl, H⟩, (fC (by first | rfl | exact congrArg (Value.int _) (by first | omega | assumption | (symm; assumption) | (simp; done) | (simp; omega)) | exact congrArg (fun n => Value.slice _ n _) (by first | omega | (simp; done) | (simp; omega))) (fC (by first | rfl | exact congrArg (Value.int _) (by first | omega | assumption | (symm; assumption) | (simp; done) | (simp; omega)) | exact congrArg (fun n => Value.slice _ n _) (by first | omega | (simp; done) | (simp; omega))) (fN _))), (by repeat (first | exact Agree.setL rfl Agree.mask | exact Agree.self _ _ | refine Agree.upd rfl ?_ | refine Agree.setL rfl ?_ | refine Agree.mask2 rfl ?_))⟩
   ·refine ex ?_
    refine then_e ?_
    refine loop_e ?_
    refine in_hit rfl ?_
    refine then_n ?_
    refine sq ?_
    refine rg ?_
    refine mv (v := .slice _ _ _) rfl rfl ?_
    refine asg (v := .slice _ _ _) rfl rfl ?_
    refine nl ?_
    refine then_n ?_
    refine rt ?_
    refine fin_r ?_
    exact ⟨_, _, rfl, hl, H.ge, H.look, H.fr⟩

end Go.Proofs.YthcaejaaalkglaaGreatDoor.X
/- Walks of functions, printed by a program of this claim. -/
namespace Go.Proofs.YthcaejaaalkglaaGreatDoor.X
set_option linter.unusedVariables false
set_option linter.unusedSimpArgs false
open Go Go.RowKit

namespace PF
theorem fo54_1 : fieldOff Tryz.prog 54 1 = some 1 := by kernel_rfl
theorem fo54_2 : fieldOff Tryz.prog 54 2 = some 2 := by kernel_rfl
theorem fo54_4 : fieldOff Tryz.prog 54 4 = some 4 := by kernel_rfl
theorem fo54_5 : fieldOff Tryz.prog 54 5 = some 5 := by kernel_rfl
theorem fo54_6 : fieldOff Tryz.prog 54 6 = some 6 := by kernel_rfl
theorem fo54_7 : fieldOff Tryz.prog 54 7 = some 7 := by kernel_rfl
theorem sc25 : scalarB Tryz.prog 25 = true := by kernel_rfl
theorem sc28 : scalarB Tryz.prog 28 = true := by kernel_rfl
theorem sc9 : scalarB Tryz.prog 9 = true := by kernel_rfl
end PF
open PF

set_option maxRecDepth 100000 in
set_option maxHeartbeats 1000000 in
theorem c_gptEntry (w : World) (b o n c : Nat) (T : TypeId) (cur : List UInt8) (p : GP) (hb : w.heap[b]? = some (.cells (Bs cur).toArray T (0, 0))) (hn : n = 128) (hc : n ≤ c) (ho : o + n ≤ cur.length) (hp : p.ok) (hf : p.fit) (h36 : (utf16 p.nm).length ≤ 36) : Calls Tryz.prog 44 #[.slice (some ⟨b, o, none⟩) n c, .agg p.cells.toArray] w (Ret fun v w' => v = .tuple #[] ∧ (pAt cur o (entB p)).length = cur.length ∧ Fr [b] w w' ∧ w'.heap[b]? = some (.cells (Bs (pAt cur o (entB p))).toArray T (0, 0))) := by
 refine enter (fun _ => .tuple #[]) Tryz.func44 rfl rfl rfl (res0 rfl) ?_
 have H := SH.rw1 hb
 have hst := hp.st; have hen := hp.en; have hat := hp.att; have hnm := hf.nm
 refine sq ?_
 refine rg ?_
 refine bx (v := .agg _) H rfl rfl rfl ?_
 clear H; intro b1 w1 hb1 H _
 refine nl ?_
 refine then_n ?_
 refine sq ?_
 refine rg ?_
 refine fa rfl fo54_4 rfl ?_
 refine ld H rfl sc9 rfl rfl ?_
 refine cl ca22 (c_guidBytes _ _) rfl ?_
 rintro _ w2 ⟨rfl, F⟩
 replace H := H.keep F; clear F
 refine mv (v := .tuple _) rfl rfl ?_
 refine xt rfl rfl rfl ?_
 refine xt rfl rfl rfl ?_
 refine al H ze50 rfl ?_
 clear H; intro b2 w3 hb2 H _
 refine sa (cs' := Bs (gB p.ty)) H rfl rfl ag50_16 (by rw [Bs_length, gB_len]) (List.all_eq_true.2 Bs_one) (by decide) (by omega) (List.append_nil _) ?_
 clear H; intro w91 H _
 refine asg (v := .bool _) rfl rfl ?_
 refine nl ?_
 refine then_n ?_
 refine sq ?_
 refine rg ?_
 refine fa rfl fo54_6 rfl ?_
 refine ld H rfl sc9 rfl rfl ?_
 refine cl ca22 (c_guidBytes _ _) rfl ?_
 rintro _ w4 ⟨rfl, F⟩
 replace H := H.keep F; clear F
 refine mv (v := .tuple _) rfl rfl ?_
 refine xt rfl rfl rfl ?_
 refine xt rfl rfl rfl ?_
 refine al H ze50 rfl ?_
 clear H; intro b3 w5 hb3 H _
 refine sa (cs' := Bs (gB p.gu)) H rfl rfl ag50_16 (by rw [Bs_length, gB_len]) (List.all_eq_true.2 Bs_one) (by decide) (by omega) (List.append_nil _) ?_
 clear H; intro w92 H _
 refine asg (v := .bool _) rfl rfl ?_
 refine nl ?_
 refine then_n ?_
 refine sq ?_
 refine rg ?_
 refine mv (v := .slice _ _ _) rfl rfl ?_
 refine slY rfl Tryz.underlying50 sz5_1 (by first | trivial | omega | (simp; omega)) rfl ?_
 refine cpP (bs := gB p.ty) H rfl rfl Tryz.underlying30 sz5_1 (RB.allm H (gB_len p.ty)) (by omega) (by first | omega | (rw [pAt_len (by rw [gB_len]; omega)]; omega)) (by omega) rfl ?_
 clear H; intro w6 H _ hlen
 refine nl ?_
 refine then_n ?_
 refine sq ?_
 refine dr (by kernel_rfl) ?_
 have H := H.drew
 refine hold (fun w' => SH w [b] w' [⟨b3, .cells (Bs (gB p.gu)).toArray 50 (0, 0), true⟩, ⟨b2, .cells (Bs (gB p.ty)).toArray 50 (0, 0), true⟩, ⟨b1, .cells p.cells.toArray 54 (0, 0), true⟩]) [] ?_
 refine tk (i := 0) rfl (by kernel_rfl) rfl (H.sub (by repeat (first | exact List.Sublist.refl _ | exact List.nil_sublist _ | apply List.Sublist.cons_cons | apply List.Sublist.cons))) (fun w' H => r_mv (v := .slice _ _ _) rfl) ?_
 refine tk (i := 1) rfl (by kernel_rfl) rfl (H.sub (by repeat (first | exact List.Sublist.refl _ | exact List.nil_sublist _ | apply List.Sublist.cons_cons | apply List.Sublist.cons))) (fun w' H => r_sllN (o + 16) (112) (c - 16) rfl rfl Tryz.underlying30 sz5_1 (by omega) (by omega)) ?_
 refine tk (i := 2) rfl (by kernel_rfl) rfl (H.sub (by repeat (first | exact List.Sublist.refl _ | exact List.nil_sublist _ | apply List.Sublist.cons_cons | apply List.Sublist.cons))) (fun w' H => r_slY rfl Tryz.underlying50 sz5_1 (by first | trivial | omega | (simp; omega))) ?_
 refine fk (i := 3) (by kernel_rfl) rfl rfl rfl ?_
 refine cpP (bs := gB p.gu) H rfl rfl Tryz.underlying30 sz5_1 (RB.allm H (gB_len p.gu)) (by omega) (by first | omega | (rw [pAt_len (by rw [gB_len]; omega)]; omega)) (by omega) rfl ?_
 clear H; intro w7 H _ hlen
 refine nl ?_
 refine then_n ?_
 refine ⟨H.sub (by repeat (first | exact List.Sublist.refl _ | exact List.nil_sublist _ | apply List.Sublist.cons_cons | apply List.Sublist.cons)), ?_⟩
 refine da (by kernel_rfl) ?_
 refine then_n ?_
 refine sq ?_
 refine dr (by kernel_rfl) ?_
 have H := H.drew
 refine hold (fun w' => SH w [b] w' [⟨b3, .cells (Bs (gB p.gu)).toArray 50 (0, 0), true⟩, ⟨b2, .cells (Bs (gB p.ty)).toArray 50 (0, 0), true⟩, ⟨b1, .cells p.cells.toArray 54 (0, 0), true⟩]) [] ?_
 refine tk (i := 0) rfl (by kernel_rfl) rfl (H.sub (by repeat (first | exact List.Sublist.refl _ | exact List.nil_sublist _ | apply List.Sublist.cons_cons | apply List.Sublist.cons))) (fun w' H => r_mv (v := .slice _ _ _) rfl) ?_
 refine tk (i := 1) rfl (by kernel_rfl) rfl (H.sub (by repeat (first | exact List.Sublist.refl _ | exact List.nil_sublist _ | apply List.Sublist.cons_cons | apply List.Sublist.cons))) (fun w' H => r_sllhN (o + 32) (8) (c - 32) rfl rfl rfl Tryz.underlying30 sz5_1 (by omega) (by omega)) ?_
 refine tk (i := 2) rfl (by kernel_rfl) rfl (H.sub (by repeat (first | exact List.Sublist.refl _ | exact List.nil_sublist _ | apply List.Sublist.cons_cons | apply List.Sublist.cons))) (fun w' H => r_fa rfl fo54_1) ?_
 refine tk (i := 3) rfl (by kernel_rfl) rfl (H.sub (by repeat (first | exact List.Sublist.refl _ | exact List.nil_sublist _ | apply List.Sublist.cons_cons | apply List.Sublist.cons))) (fun w' H => r_ld H rfl sc28 rfl) ?_
 refine fk (i := 4) (by kernel_rfl) rfl rfl rfl ?_
 refine cl ca45 (c_putLe _ _ _ _ _ _ _ _ H.look (by first | omega | ((try simp only [pAt_length, leB_len, gB_len, List.length_set, List.length_replicate]); omega)) (by omega)) rfl ?_
 rintro _ w8 ⟨rfl, hlen, F, hnew⟩
 replace H := H.put F hnew; clear F hnew
 refine nl ?_
 refine then_n ?_
 refine ⟨H.sub (by repeat (first | exact List.Sublist.refl _ | exact List.nil_sublist _ | apply List.Sublist.cons_cons | apply List.Sublist.cons)), ?_⟩
 refine da (by kernel_rfl) ?_
 refine then_n ?_
 refine sq ?_
 refine dr (by kernel_rfl) ?_
 have H := H.drew
 refine hold (fun w' => SH w [b] w' [⟨b3, .cells (Bs (gB p.gu)).toArray 50 (0, 0), true⟩, ⟨b2, .cells (Bs (gB p.ty)).toArray 50 (0, 0), true⟩, ⟨b1, .cells p.cells.toArray 54 (0, 0), true⟩]) [] ?_
 refine tk (i := 0) rfl (by kernel_rfl) rfl (H.sub (by repeat (first | exact List.Sublist.refl _ | exact List.nil_sublist _ | apply List.Sublist.cons_cons | apply List.Sublist.cons))) (fun w' H => r_mv (v := .slice _ _ _) rfl) ?_
 refine tk (i := 1) rfl (by kernel_rfl) rfl (H.sub (by repeat (first | exact List.Sublist.refl _ | exact List.nil_sublist _ | apply List.Sublist.cons_cons | apply List.Sublist.cons))) (fun w' H => r_sllhN (o + 40) (8) (c - 40) rfl rfl rfl Tryz.underlying30 sz5_1 (by omega) (by omega)) ?_
 refine tk (i := 2) rfl (by kernel_rfl) rfl (H.sub (by repeat (first | exact List.Sublist.refl _ | exact List.nil_sublist _ | apply List.Sublist.cons_cons | apply List.Sublist.cons))) (fun w' H => r_fa rfl fo54_2) ?_
 refine tk (i := 3) rfl (by kernel_rfl) rfl (H.sub (by repeat (first | exact List.Sublist.refl _ | exact List.nil_sublist _ | apply List.Sublist.cons_cons | apply List.Sublist.cons))) (fun w' H => r_ld H rfl sc28 rfl) ?_
 refine fk (i := 4) (by kernel_rfl) rfl rfl rfl ?_
 refine cl ca45 (c_putLe _ _ _ _ _ _ _ _ H.look (by first | omega | ((try simp only [pAt_length, leB_len, gB_len, List.length_set, List.length_replicate]); omega)) (by omega)) rfl ?_
 rintro _ w9 ⟨rfl, hlen, F, hnew⟩
 replace H := H.put F hnew; clear F hnew
 refine nl ?_
 refine then_n ?_
 refine ⟨H.sub (by repeat (first | exact List.Sublist.refl _ | exact List.nil_sublist _ | apply List.Sublist.cons_cons | apply List.Sublist.cons)), ?_⟩
 refine da (by kernel_rfl) ?_
 refine then_n ?_
 refine sq ?_
 refine dr (by kernel_rfl) ?_
 have H := H.drew
 refine hold (fun w' => SH w [b] w' [⟨b3, .cells (Bs (gB p.gu)).toArray 50 (0, 0), true⟩, ⟨b2, .cells (Bs (gB p.ty)).toArray 50 (0, 0), true⟩, ⟨b1, .cells p.cells.toArray 54 (0, 0), true⟩]) [] ?_
 refine tk (i := 0) rfl (by kernel_rfl) rfl (H.sub (by repeat (first | exact List.Sublist.refl _ | exact List.nil_sublist _ | apply List.Sublist.cons_cons | apply List.Sublist.cons))) (fun w' H => r_mv (v := .slice _ _ _) rfl) ?_
 refine tk (i := 1) rfl (by kernel_rfl) rfl (H.sub (by repeat (first | exact List.Sublist.refl _ | exact List.nil_sublist _ | apply List.Sublist.cons_cons | apply List.Sublist.cons))) (fun w' H => r_sllhN (o + 48) (8) (c - 48) rfl rfl rfl Tryz.underlying30 sz5_1 (by omega) (by omega)) ?_
 refine tk (i := 2) rfl (by kernel_rfl) rfl (H.sub (by repeat (first | exact List.Sublist.refl _ | exact List.nil_sublist _ | apply List.Sublist.cons_cons | apply List.Sublist.cons))) (fun w' H => r_fa rfl fo54_7) ?_
 refine tk (i := 3) rfl (by kernel_rfl) rfl (H.sub (by repeat (first | exact List.Sublist.refl _ | exact List.nil_sublist _ | apply List.Sublist.cons_cons | apply List.Sublist.cons))) (fun w' H => r_ld H rfl sc28 rfl) ?_
 refine fk (i := 4) (by kernel_rfl) rfl rfl rfl ?_
 refine cl ca45 (c_putLe _ _ _ _ _ _ _ _ H.look (by first | omega | ((try simp only [pAt_length, leB_len, gB_len, List.length_set, List.length_replicate]); omega)) (by omega)) rfl ?_
 rintro _ w10 ⟨rfl, hlen, F, hnew⟩
 replace H := H.put F hnew; clear F hnew
 refine nl ?_
 refine then_n ?_
 refine ⟨H.sub (by repeat (first | exact List.Sublist.refl _ | exact List.nil_sublist _ | apply List.Sublist.cons_cons | apply List.Sublist.cons)), ?_⟩
 refine da (by kernel_rfl) ?_
 refine then_n ?_
 refine sq ?_
 refine rg ?_
 refine fa rfl fo54_5 rfl ?_
 refine ld H rfl sc9 rfl rfl ?_
 refine cl ca42 (c_utf16 _ _ (by omega)) rfl ?_
 rintro _ w11 ⟨DU, capU, rfl, O⟩
 replace O := O.join H; clear H; have H := O.sh
 refine lnS rfl Tryz.underlying90 rfl ?_
 refine mv (v := .int .i64 _) rfl rfl ?_
 refine nl ?_
 refine then_n ?_
 refine bk ?_
 refine lpM (α := Nat) [8, 9, 48, 49, 50, 51, 52, 53, 54, 55, 56, 57, 58, 59, 60, 61, 62, 63, 64] (fun i => [(48, .int .i64 (i : Int))]) (fun i w' => i ≤ (utf16 p.nm).length ∧ OR 25 1 w [b] w' [⟨b3, .cells (Bs (gB p.gu)).toArray 50 (0, 0), true⟩, ⟨b2, .cells (Bs (gB p.ty)).toArray 50 (0, 0), true⟩, ⟨b1, .cells p.cells.toArray 54 (0, 0), true⟩, ⟨b, .cells (Bs (pAt cur o (entH p ++ ((utf16 p.nm).take i).flatMap (leB 2)))).toArray T (0, 0), true⟩] DU (utf16 p.nm).length capU ((utf16 p.nm).map (Value.int .u16))) (fun i => (utf16 p.nm).length - i) 0 ?_ (fC (by first | rfl | exact congrArg (Value.int _) (by first | omega | assumption | (symm; assumption) | (simp; done) | (simp; omega)) | exact congrArg (fun n => Value.slice _ n _) (by first | omega | (simp; done) | (simp; omega))) (fN _)) ?_
 ·exact ⟨by omega, by rw [ent_head (by omega)] at O; rw [List.take_zero, List.flatMap_nil, List.append_nil]; exact O⟩
 ·rintro i ρx w12 ⟨hi, O⟩
  have H := O.sh
  have hel := entH_len p
  refine sq ?_
  refine rg ?_
  refine lss rfl rfl rfl ?_
  refine nl ?_
  refine then_n ?_
  refine sq ?_
  refine cd rfl (fun hc1 => ?_) (fun hc1 => ?_)
  ·obtain ⟨u, hu⟩ : ∃ u, (utf16 p.nm)[i]? = some u := ⟨_, List.getElem?_eq_getElem (by omega)⟩
   have hur := utf16_rng _ _ (Nat.le_refl _) u (List.mem_of_getElem? hu)
   obtain ⟨ad, rfl⟩ := O.some_of (by omega)
   have hcell := O.one (v := .int .u16 u) (by rw [List.getElem?_map, hu]; rfl)
   refine sk ?_
   refine then_n ?_
   refine sq ?_
   refine bk ?_
   refine sq ?_
   refine rg ?_
   refine mv (v := .int .i64 _) rfl rfl ?_
   refine iBN (ad.add i) rfl rfl Tryz.underlying90 sz25_1 (by omega) (by simp) rfl ?_
   refine lc rfl (by first | assumption | exact H.fr.cell (by assumption) (by simp)) sc25 rfl ?_
   refine asg (v := .int .i64 _) rfl rfl ?_
   refine asg (v := .int .u16 _) rfl rfl ?_
   refine nl ?_
   refine then_n ?_
   refine rg ?_
   refine mv (v := .slice _ _ _) rfl rfl ?_
   refine mv (v := .int .i64 _) rfl rfl ?_
   refine mul rfl rfl (by first | exact w_i64 (by omega) | exact w_i64 (rng_i64 _) | rfl) rfl ?_
   refine add rfl rfl (by first | exact w_i64 (by omega) | exact w_i64 (rng_i64 _) | rfl) rfl ?_
   refine mv (v := .int .i64 _) rfl rfl ?_
   refine mul rfl rfl (by first | exact w_i64 (by omega) | exact w_i64 (rng_i64 _) | rfl) rfl ?_
   refine add rfl rfl (by first | exact w_i64 (by omega) | exact w_i64 (rng_i64 _) | rfl) rfl ?_
   refine sllhN (o + (56 + 2 * i)) (2) (c - (56 + 2 * i)) rfl rfl rfl Tryz.underlying30 sz5_1 (by omega) (by omega) rfl ?_
   refine mv (v := .int .u16 _) rfl rfl ?_
   refine cvi rfl rfl Tryz.underlying28 (by first | exact w_u64 (by omega) | exact w_u64 (rng_u64 _) | exact m_u64 _) rfl ?_
   refine cl ca45 (c_putLe _ _ _ _ _ _ _ _ H.look (by (try simp only [pAt_length]); omega) (by omega)) rfl ?_
   rintro _ w13 ⟨rfl, hlen, F, hnew⟩
   replace H := H.put F hnew; replace O := O.put F hnew; clear F hnew
   refine nl ?_
   refine in_n ?_
   refine then_n ?_
   refine rg ?_
   refine add rfl rfl (by first | exact w_i64 (by omega) | exact w_i64 (rng_i64 _) | rfl) rfl ?_
   refine mv (v := .int .i64 _) rfl rfl ?_
   refine nl ?_
   refine loop_n ?_
   exact ⟨i + 1, (by (try dsimp only); omega), ⟨by omega, by rw [← ent_unit (by omega) h36 hu]; exact O⟩, (fC (by first | rfl | exact congrArg (Value.int _) (by first | omega | assumption | (symm; assumption) | (simp; done) | (simp; omega)) | exact congrArg (fun n => Value.slice _ n _) (by first | omega | (simp; done) | (simp; omega))) (fN _)), (by repeat (first | exact Agree.setL rfl Agree.mask | exact Agree.self _ _ | refine Agree.upd rfl ?_ | refine Agree.setL rfl ?_ | refine Agree.mask2 rfl ?_))⟩
  ·refine ex ?_
   refine then_e ?_
   refine loop_e ?_
   refine in_hit rfl ?_
   refine fin_n ?_
   obtain rfl : i = (utf16 p.nm).length := by omega
   have e := O.sh.look (b := b)
   rw [List.take_length] at e
   exact ⟨rfl, pAt_len (by rw [entB_len]; omega), O.sh.fr, e⟩

end Go.Proofs.YthcaejaaalkglaaGreatDoor.X
/- Walks of functions, printed by a program of this claim. -/
namespace Go.Proofs.YthcaejaaalkglaaGreatDoor.X
set_option linter.unusedVariables false
set_option linter.unusedSimpArgs false
open Go Go.RowKit

namespace PF
theorem ag24_5 : aggB Tryz.prog 24 5 = true := by kernel_rfl
theorem ag54_8 : aggB Tryz.prog 54 8 = true := by kernel_rfl
theorem bo62 : buildOK Tryz.prog 62 = true := by kernel_rfl
theorem bo64 : buildOK Tryz.prog 64 = true := by kernel_rfl
theorem bo65 : buildOK Tryz.prog 65 = true := by kernel_rfl
theorem ca21 : callable Tryz.prog 21 = true := by kernel_rfl
theorem ca27 : callable Tryz.prog 27 = true := by kernel_rfl
theorem ca28 : callable Tryz.prog 28 = true := by kernel_rfl
theorem ca29 : callable Tryz.prog 29 = true := by kernel_rfl
theorem ca44 : callable Tryz.prog 44 = true := by kernel_rfl
theorem ca46 : callable Tryz.prog 46 = true := by kernel_rfl
theorem fo24_0 : fieldOff Tryz.prog 24 0 = some 0 := by kernel_rfl
theorem fo24_1 : fieldOff Tryz.prog 24 1 = some 1 := by kernel_rfl
theorem fo24_2 : fieldOff Tryz.prog 24 2 = some 2 := by kernel_rfl
theorem fo24_3 : fieldOff Tryz.prog 24 3 = some 3 := by kernel_rfl
theorem fo54_0 : fieldOff Tryz.prog 54 0 = some 0 := by kernel_rfl
theorem pl62_0 : placeOf Tryz.prog 62 0 = some (0, 1) := by kernel_rfl
theorem pl62_1 : placeOf Tryz.prog 62 1 = some (1, 1) := by kernel_rfl
theorem pl62_2 : placeOf Tryz.prog 62 2 = some (2, 1) := by kernel_rfl
theorem pl62_3 : placeOf Tryz.prog 62 3 = some (3, 1) := by kernel_rfl
theorem pl62_4 : placeOf Tryz.prog 62 4 = some (4, 1) := by kernel_rfl
theorem pl62_5 : placeOf Tryz.prog 62 5 = some (5, 1) := by kernel_rfl
theorem pl64_2 : placeOf Tryz.prog 64 2 = some (2, 1) := by kernel_rfl
theorem pl64_3 : placeOf Tryz.prog 64 3 = some (3, 1) := by kernel_rfl
theorem pl64_4 : placeOf Tryz.prog 64 4 = some (4, 1) := by kernel_rfl
theorem pl64_5 : placeOf Tryz.prog 64 5 = some (5, 6) := by kernel_rfl
theorem pl65_0 : placeOf Tryz.prog 65 0 = some (0, 11) := by kernel_rfl
theorem sc22 : scalarB Tryz.prog 22 = true := by kernel_rfl
theorem sz54_8 : sizeB Tryz.prog 54 8 = true := by kernel_rfl
theorem ze54 : zeroL Tryz.prog 54 = some [.int .i64 0, .int .u64 0, .int .u64 0, .int .u64 0, .string ⟨#[]⟩, .string ⟨#[]⟩, .string ⟨#[]⟩, .int .u64 0] := by kernel_rfl
theorem ze62 : zeroL Tryz.prog 62 = some [.int .u8 0, .int .u8 0, .int .u8 0, .int .u8 0, .int .u8 0, .int .u8 0] := by kernel_rfl
theorem ze65 : zeroL Tryz.prog 65 = some [.int .i64 0, .bool false, .int .u8 0, .int .u32 0, .int .u32 0, .int .u8 0, .int .u8 0, .int .u8 0, .int .u8 0, .int .u8 0, .int .u8 0, .int .i64 0, .bool false, .int .u8 0, .int .u32 0, .int .u32 0, .int .u8 0, .int .u8 0, .int .u8 0, .int .u8 0, .int .u8 0, .int .u8 0, .int .i64 0, .bool false, .int .u8 0, .int .u32 0, .int .u32 0, .int .u8 0, .int .u8 0, .int .u8 0, .int .u8 0, .int .u8 0, .int .u8 0, .int .i64 0, .bool false, .int .u8 0, .int .u32 0, .int .u32 0, .int .u8 0, .int .u8 0, .int .u8 0, .int .u8 0, .int .u8 0, .int .u8 0] := by kernel_rfl
end PF
open PF

set_option maxRecDepth 100000 in
set_option maxHeartbeats 1000000 in
theorem c_gptArray (w : World) (D : Option Addr) (m c : Nat) (gu : List UInt8) (pr rc : Bool) (ps : List GP) (hq : RG w D m c ps) (hm : m ≤ 200) (hf : ∀ p ∈ ps, p.fit ∧ p.fits) : Calls Tryz.prog 27 #[.agg (gtCells D m c 512 gu pr rc).toArray] w (Ret fun v w' => ∃ b, v = .slice (some ⟨b, 0, none⟩) 16384 16384 ∧ w.heap.size ≤ b ∧ w'.heap[b]? = some (.cells (Bs (arrB ps)).toArray 5 (0, 0)) ∧ Fr [] w w') := by
 refine enter (fun ρ => ρ 2) Tryz.func27 rfl rfl rfl (res1 rfl) ?_
 have H := SH.nil w
 have hql := hq.len
 refine sq ?_
 refine rg ?_
 refine bx (v := .agg _) H rfl rfl rfl ?_
 clear H; intro b1 w1 hb1 H _
 refine asg (v := .slice _ _ _) rfl rfl ?_
 refine nl ?_
 refine then_n ?_
 refine sq ?_
 refine rg ?_
 refine mkB H rfl rfl Tryz.underlying30 mi5 (by omega) (by omega) (by omega) (by omega) rfl ?_
 clear H; intro b2 w2 hb2 H _
 refine asg (v := .slice _ _ _) rfl rfl ?_
 refine nl ?_
 refine then_n ?_
 refine sq ?_
 refine sq ?_
 refine rg ?_
 refine fa rfl fo24_0 rfl ?_
 refine ld H rfl sc22 rfl rfl ?_
 refine lnS rfl Tryz.underlying22 rfl ?_
 refine mv (v := .int .i64 _) rfl rfl ?_
 refine nl ?_
 refine then_n ?_
 refine bk ?_
 refine lpM (α := Nat) [5, 10, 11, 12, 13, 14, 15, 16, 17, 18, 19, 20, 21, 22, 23, 24, 25, 26, 27, 28, 29, 30, 31, 32, 33] (fun i => [(10, .int .i64 (i : Int))]) (fun i w' => i ≤ m ∧ SH w [] w' [⟨b2, .cells (Bs ((ps.take i).foldl arrP (List.replicate 16384 0))).toArray 5 (0, 0), true⟩, ⟨b1, .cells (gtCells D m c 512 gu pr rc).toArray 24 (0, 0), true⟩]) (fun i => m - i) 0 ?_ (fC (by first | rfl | exact congrArg (Value.int _) (by first | omega | assumption | (symm; assumption) | (simp; done) | (simp; omega)) | exact congrArg (fun n => Value.slice _ n _) (by first | omega | (simp; done) | (simp; omega))) (fN _)) ?_
 ·exact ⟨by omega, H⟩
 ·rintro i ρx w3 ⟨hi, H⟩
  refine sq ?_
  refine rg ?_
  refine lss rfl rfl rfl ?_
  refine nl ?_
  refine then_n ?_
  refine sq ?_
  refine cd rfl (fun hc1 => ?_) (fun hc1 => ?_)
  ·obtain ⟨p, hpi⟩ : ∃ p, ps[i]? = some p := ⟨_, List.getElem?_eq_getElem (by omega)⟩
   obtain ⟨ad, rfl⟩ := hq.some_of (by omega)
   have hpo := hq.ok p (List.mem_of_getElem? hpi)
   obtain ⟨hpf, hp1, hp2, hp36⟩ := hf p (List.mem_of_getElem? hpi)
   have hal : ((ps.take i).foldl arrP (List.replicate 16384 0)).length = 16384 := foldl_arr_len _ _ List.length_replicate fun q hq => (hf q (List.mem_of_mem_take hq)).2
   refine sk ?_
   refine then_n ?_
   refine sq ?_
   refine bk ?_
   refine sq ?_
   refine rg ?_
   refine iBN (ad.add (i * 8)) rfl rfl Tryz.underlying22 sz54_8 (by omega) (by simp) rfl ?_
   refine lw (vs := p.cells) rfl ag54_8 rfl (fun j v h => H.fr.cell (hq.elem hpi j v h) (by simp)) rfl ?_
   refine al H ze54 rfl ?_
   clear H; intro b3 w4 hb3 H _
   refine sa (cs' := p.cells) H rfl rfl ag54_8 rfl rfl (by decide) (by omega) rfl ?_
   clear H; intro w35 H _
   refine nl ?_
   refine then_n ?_
   refine sq ?_
   refine rg ?_
   refine fa rfl fo54_0 rfl ?_
   refine ld H rfl sc3 rfl rfl ?_
   refine geq rfl rfl rfl ?_
   refine mv (v := .bool _) rfl rfl ?_
   refine spT (t := 17) rfl (by omega) ?_
   refine gy rfl ?_
   refine fa rfl fo54_0 rfl ?_
   refine gy rfl ?_
   refine ld H rfl sc3 rfl rfl ?_
   refine gy rfl ?_
   refine leq rfl rfl rfl ?_
   refine pkT (v := .bool _) rfl rfl rfl ?_
   refine nl ?_
   refine then_n ?_
   refine cT rfl (by omega) ?_
   refine dr (by kernel_rfl) ?_
   have H := H.drew
   refine hold (fun w' => SH w [] w' [⟨b3, .cells p.cells.toArray 54 (0, 0), true⟩]) [] ?_
   refine tk (i := 0) rfl (by kernel_rfl) rfl (H.sub (by repeat (first | exact List.Sublist.refl _ | exact List.nil_sublist _ | apply List.Sublist.cons_cons | apply List.Sublist.cons))) (fun w' H => r_mv (v := .slice _ _ _) rfl) ?_
   refine tk (i := 1) rfl (by kernel_rfl) rfl (H.sub (by repeat (first | exact List.Sublist.refl _ | exact List.nil_sublist _ | apply List.Sublist.cons_cons | apply List.Sublist.cons))) (fun w' H => r_fa rfl fo54_0) ?_
   refine tk (i := 2) rfl (by kernel_rfl) rfl (H.sub (by repeat (first | exact List.Sublist.refl _ | exact List.nil_sublist _ | apply List.Sublist.cons_cons | apply List.Sublist.cons))) (fun w' H => r_ld H rfl sc3 rfl) ?_
   refine tk (i := 3) rfl (by kernel_rfl) rfl (H.sub (by repeat (first | exact List.Sublist.refl _ | exact List.nil_sublist _ | apply List.Sublist.cons_cons | apply List.Sublist.cons))) (fun w' H => r_sub rfl rfl (by first | exact w_i64 (by omega) | exact w_i64 (rng_i64 _) | rfl)) ?_
   refine tk (i := 4) rfl (by kernel_rfl) rfl (H.sub (by repeat (first | exact List.Sublist.refl _ | exact List.nil_sublist _ | apply List.Sublist.cons_cons | apply List.Sublist.cons))) (fun w' H => r_mul rfl rfl (by first | exact w_i64 (by omega) | exact w_i64 (rng_i64 _) | rfl)) ?_
   refine tk (i := 5) rfl (by kernel_rfl) rfl (H.sub (by repeat (first | exact List.Sublist.refl _ | exact List.nil_sublist _ | apply List.Sublist.cons_cons | apply List.Sublist.cons))) (fun w' H => r_fa rfl fo54_0) ?_
   refine tk (i := 6) rfl (by kernel_rfl) rfl (H.sub (by repeat (first | exact List.Sublist.refl _ | exact List.nil_sublist _ | apply List.Sublist.cons_cons | apply List.Sublist.cons))) (fun w' H => r_ld H rfl sc3 rfl) ?_
   refine tk (i := 7) rfl (by kernel_rfl) rfl (H.sub (by repeat (first | exact List.Sublist.refl _ | exact List.nil_sublist _ | apply List.Sublist.cons_cons | apply List.Sublist.cons))) (fun w' H => r_mul rfl rfl (by first | exact w_i64 (by omega) | exact w_i64 (rng_i64 _) | rfl)) ?_
   refine tk (i := 8) rfl (by kernel_rfl) rfl (H.sub (by repeat (first | exact List.Sublist.refl _ | exact List.nil_sublist _ | apply List.Sublist.cons_cons | apply List.Sublist.cons))) (fun w' H => r_sllhN (128 * (p.ix - 1).toNat) (128) (16384 - 128 * (p.ix - 1).toNat) rfl rfl rfl Tryz.underlying30 sz5_1 (by omega) (by omega)) ?_
   refine tk (i := 9) rfl (by kernel_rfl) rfl (H.sub (by repeat (first | exact List.Sublist.refl _ | exact List.nil_sublist _ | apply List.Sublist.cons_cons | apply List.Sublist.cons))) (fun w' H => r_la (vs := p.cells) H rfl ag54_8 rfl rfl) ?_
   refine fk (i := 10) (by kernel_rfl) rfl rfl rfl ?_
   refine cl ca44 (c_gptEntry _ b2 _ 128 _ _ _ p (H.look (b := b2)) rfl (by omega) (by omega) hpo hpf hp36) rfl ?_
   rintro _ w5 ⟨rfl, hlen, F, hnew⟩
   replace H := H.put (b := b2) F hnew; clear F hnew
   refine nl ?_
   refine then_n ?_
   refine ⟨H.sub (by repeat (first | exact List.Sublist.refl _ | exact List.nil_sublist _ | apply List.Sublist.cons_cons | apply List.Sublist.cons)), ?_⟩
   refine da (by kernel_rfl) ?_
   refine in_n ?_
   refine then_n ?_
   refine rg ?_
   refine add rfl rfl (by first | exact w_i64 (by omega) | exact w_i64 (rng_i64 _) | rfl) rfl ?_
   refine mv (v := .int .i64 _) rfl rfl ?_
   refine nl ?_
   refine loop_n ?_
   exact ⟨i + 1, (by (try dsimp only); omega), ⟨by omega, by rw [arr_take hpi]; exact H.sub (by repeat (first | exact List.Sublist.refl _ | exact List.nil_sublist _ | apply List.Sublist.cons_cons | apply List.Sublist.cons))⟩, (fC (by first | rfl | exact congrArg (Value.int _) (by first | omega | assumption | (symm; assumption) | (simp; done) | (simp; omega)) | exact congrArg (fun n => Value.slice _ n _) (by first | omega | (simp; done) | (simp; omega))) (fN _)), (by repeat (first | exact Agree.setL rfl Agree.mask | exact Agree.self _ _ | refine Agree.upd rfl ?_ | refine Agree.setL rfl ?_ | refine Agree.mask2 rfl ?_))⟩
  ·refine ex ?_
   refine then_e ?_
   refine loop_e ?_
   refine in_hit rfl ?_
   refine then_n ?_
   refine sq ?_
   refine rg ?_
   refine mv (v := .slice _ _ _) rfl rfl ?_
   refine asg (v := .slice _ _ _) rfl rfl ?_
   refine nl ?_
   refine then_n ?_
   refine rt ?_
   refine fin_r ?_
   obtain rfl : i = m := by omega
   have e := H.look (b := b2)
   rw [List.take_of_length_le (by omega)] at e
   exact ⟨_, rfl, H.ge, e, H.fr⟩

set_option maxRecDepth 100000 in
set_option maxHeartbeats 1000000 in
theorem c_tabSectors (w : World)  : Calls Tryz.prog 21 #[.int .i64 512] w (Ret fun v w' => v = .int .u64 32 ∧ Fr [] w w') := by
 refine enter (fun ρ => ρ 2) Tryz.func21 rfl rfl rfl (res1 rfl) ?_
 have H := SH.nil w
 refine sq ?_
 refine rg ?_
 refine asg (v := .int .u64 _) rfl rfl ?_
 refine nl ?_
 refine then_n ?_
 refine sq ?_
 refine rg ?_
 refine mv (v := .int .i64 _) rfl rfl ?_
 refine add rfl rfl (by first | exact w_i64 (by omega) | exact w_i64 (rng_i64 _) | rfl) rfl ?_
 refine sub rfl rfl (by first | exact w_i64 (by omega) | exact w_i64 (rng_i64 _) | rfl) rfl ?_
 refine mv (v := .int .i64 _) rfl rfl ?_
 refine quo rfl rfl (by omega) (by omega) (by first | exact w_i64 (by omega) | exact w_i64 (rng_i64 _) | rfl) rfl ?_
 refine cvi rfl rfl Tryz.underlying28 (by first | exact w_u64 (by omega) | exact w_u64 (rng_u64 _) | exact m_u64 _) rfl ?_
 refine asg (v := .int .u64 _) rfl rfl ?_
 refine nl ?_
 refine then_n ?_
 refine rt ?_
 refine fin_r ?_
 exact ⟨rfl, H.fr⟩

set_option maxRecDepth 100000 in
set_option maxHeartbeats 1000000 in
theorem c_gptHeader (w : World) (D : Option Addr) (m c : Nat) (gu : List UInt8) (pr rc : Bool) (a o e n : Int) (B : Option Addr) (k kc : Nat) (arr : List UInt8) (hA : RB w B k arr) (hk : k ≤ 1000000) (ha : 0 ≤ a ∧ a ≤ 1000000000) (ho : 0 ≤ o ∧ o ≤ 1000000000) (he : 0 ≤ e ∧ e ≤ 1000000000) (hn : 34 ≤ n ∧ n ≤ 1000000000) : Calls Tryz.prog 29 #[.agg (gtCells D m c 512 gu pr rc).toArray, .int .u64 a, .int .u64 o, .int .u64 e, .int .u64 n, .slice B k kc] w (Ret fun v w' => ∃ b, v = .slice (some ⟨b, 0, none⟩) 512 512 ∧ w.heap.size ≤ b ∧ w'.heap[b]? = some (.cells (Bs (hdrB a o e n (gB gu) (crc32 arr))).toArray 5 (0, 0)) ∧ Fr [] w w') := by
 refine enter (fun ρ => ρ 12) Tryz.func29 rfl rfl rfl (res1 rfl) ?_
 have H := SH.nil w
 have hcr := crc32_rng arr
 refine sq ?_
 refine rg ?_
 refine bx (v := .agg _) H rfl rfl rfl ?_
 clear H; intro b1 w1 hb1 H _
 refine asg (v := .slice _ _ _) rfl rfl ?_
 refine nl ?_
 refine then_n ?_
 refine sq ?_
 refine rg ?_
 refine fa rfl fo24_1 rfl ?_
 refine ld H rfl sc3 rfl rfl ?_
 refine mkB H rfl rfl Tryz.underlying30 mi5 (by omega) (by omega) (by omega) (by omega) rfl ?_
 clear H; intro b2 w2 hb2 H _
 refine asg (v := .slice _ _ _) rfl rfl ?_
 refine nl ?_
 refine then_n ?_
 refine sq ?_
 refine rg ?_
 have hl0 : (List.replicate (512 : Int).toNat (0 : UInt8)).length = 512 := List.length_replicate
 refine mv (v := .slice _ _ _) rfl rfl ?_
 refine cpT (bs := efiL) H rfl rfl Tryz.underlying30 sz5_1 (by decide) (by omega) (by omega) rfl ?_
 clear H; intro w3 H _ hlen
 refine nl ?_
 refine then_n ?_
 refine sq ?_
 refine rg ?_
 refine mv (v := .slice _ _ _) rfl rfl ?_
 refine sllhN (8) (4) (504) rfl rfl rfl Tryz.underlying30 sz5_1 (by omega) (by omega) rfl ?_
 refine cl ca45 (c_putLe _ _ _ _ _ _ _ _ H.look (by first | omega | ((try simp only [pAt_length, leB_len, gB_len, List.length_set, List.length_replicate]); omega)) (by omega)) rfl ?_
 rintro _ w4 ⟨rfl, hlen, F, hnew⟩
 replace H := H.put F hnew; clear F hnew
 refine nl ?_
 refine then_n ?_
 refine sq ?_
 refine rg ?_
 refine mv (v := .slice _ _ _) rfl rfl ?_
 refine sllhN (12) (4) (500) rfl rfl rfl Tryz.underlying30 sz5_1 (by omega) (by omega) rfl ?_
 refine cl ca45 (c_putLe _ _ _ _ _ _ _ _ H.look (by first | omega | ((try simp only [pAt_length, leB_len, gB_len, List.length_set, List.length_replicate]); omega)) (by omega)) rfl ?_
 rintro _ w5 ⟨rfl, hlen, F, hnew⟩
 replace H := H.put F hnew; clear F hnew
 refine nl ?_
 refine then_n ?_
 refine sq ?_
 refine rg ?_
 refine mv (v := .slice _ _ _) rfl rfl ?_
 refine sllhN (24) (8) (488) rfl rfl rfl Tryz.underlying30 sz5_1 (by omega) (by omega) rfl ?_
 refine mv (v := .int .u64 _) rfl rfl ?_
 refine cl ca45 (c_putLe _ _ _ _ _ _ _ _ H.look (by first | omega | ((try simp only [pAt_length, leB_len, gB_len, List.length_set, List.length_replicate]); omega)) (by omega)) rfl ?_
 rintro _ w6 ⟨rfl, hlen, F, hnew⟩
 replace H := H.put F hnew; clear F hnew
 refine nl ?_
 refine then_n ?_
 refine sq ?_
 refine rg ?_
 refine mv (v := .slice _ _ _) rfl rfl ?_
 refine sllhN (32) (8) (480) rfl rfl rfl Tryz.underlying30 sz5_1 (by omega) (by omega) rfl ?_
 refine mv (v := .int .u64 _) rfl rfl ?_
 refine cl ca45 (c_putLe _ _ _ _ _ _ _ _ H.look (by first | omega | ((try simp only [pAt_length, leB_len, gB_len, List.length_set, List.length_replicate]); omega)) (by omega)) rfl ?_
 rintro _ w7 ⟨rfl, hlen, F, hnew⟩
 replace H := H.put F hnew; clear F hnew
 refine nl ?_
 refine then_n ?_
 refine sq ?_
 refine dr (by kernel_rfl) ?_
 have H := H.drew
 refine hold (fun w' => SH w [] w' [⟨b1, .cells (gtCells D m c 512 gu pr rc).toArray 24 (0, 0), true⟩]) [] ?_
 refine tk (i := 0) rfl (by kernel_rfl) rfl (H.sub (by repeat (first | exact List.Sublist.refl _ | exact List.nil_sublist _ | apply List.Sublist.cons_cons | apply List.Sublist.cons))) (fun w' H => r_mv (v := .slice _ _ _) rfl) ?_
 refine tk (i := 1) rfl (by kernel_rfl) rfl (H.sub (by repeat (first | exact List.Sublist.refl _ | exact List.nil_sublist _ | apply List.Sublist.cons_cons | apply List.Sublist.cons))) (fun w' H => r_sllhN (40) (8) (472) rfl rfl rfl Tryz.underlying30 sz5_1 (by omega) (by omega)) ?_
 refine tk (i := 2) rfl (by kernel_rfl) rfl (H.sub (by repeat (first | exact List.Sublist.refl _ | exact List.nil_sublist _ | apply List.Sublist.cons_cons | apply List.Sublist.cons))) (fun w' H => r_fa rfl fo24_1) ?_
 refine tk (i := 3) rfl (by kernel_rfl) rfl (H.sub (by repeat (first | exact List.Sublist.refl _ | exact List.nil_sublist _ | apply List.Sublist.cons_cons | apply List.Sublist.cons))) (fun w' H => r_ld H rfl sc3 rfl) ?_
 refine fk (i := 4) (by kernel_rfl) rfl rfl rfl ?_
 refine cl ca21 (c_tabSectors _) rfl ?_
 rintro _ w8 ⟨rfl, F⟩
 replace H := H.keep F; clear F
 refine nl ?_
 refine then_n ?_
 refine ⟨H.sub (by repeat (first | exact List.Sublist.refl _ | exact List.nil_sublist _ | apply List.Sublist.cons_cons | apply List.Sublist.cons)), ?_⟩
 refine tk (i := 5) rfl (by kernel_rfl) rfl (H.sub (by repeat (first | exact List.Sublist.refl _ | exact List.nil_sublist _ | apply List.Sublist.cons_cons | apply List.Sublist.cons))) (fun w' H => r_add (c := 34) rfl rfl (by decide)) ?_
 refine fk (i := 6) (by kernel_rfl) rfl rfl rfl ?_
 refine cl ca45 (c_putLe _ _ _ _ _ _ _ _ H.look (by first | omega | ((try simp only [pAt_length, leB_len, gB_len, List.length_set, List.length_replicate]); omega)) (by omega)) rfl ?_
 rintro _ w9 ⟨rfl, hlen, F, hnew⟩
 replace H := H.put F hnew; clear F hnew
 refine nl ?_
 refine then_n ?_
 refine ⟨H.sub (by repeat (first | exact List.Sublist.refl _ | exact List.nil_sublist _ | apply List.Sublist.cons_cons | apply List.Sublist.cons)), ?_⟩
 refine da (by kernel_rfl) ?_
 refine then_n ?_
 refine sq ?_
 refine dr (by kernel_rfl) ?_
 have H := H.drew
 refine hold (fun w' => SH w [] w' [⟨b1, .cells (gtCells D m c 512 gu pr rc).toArray 24 (0, 0), true⟩]) [] ?_
 refine tk (i := 0) rfl (by kernel_rfl) rfl (H.sub (by repeat (first | exact List.Sublist.refl _ | exact List.nil_sublist _ | apply List.Sublist.cons_cons | apply List.Sublist.cons))) (fun w' H => r_mv (v := .slice _ _ _) rfl) ?_
 refine tk (i := 1) rfl (by kernel_rfl) rfl (H.sub (by repeat (first | exact List.Sublist.refl _ | exact List.nil_sublist _ | apply List.Sublist.cons_cons | apply List.Sublist.cons))) (fun w' H => r_sllhN (48) (8) (464) rfl rfl rfl Tryz.underlying30 sz5_1 (by omega) (by omega)) ?_
 refine tk (i := 2) rfl (by kernel_rfl) rfl (H.sub (by repeat (first | exact List.Sublist.refl _ | exact List.nil_sublist _ | apply List.Sublist.cons_cons | apply List.Sublist.cons))) (fun w' H => r_mv (v := .int .u64 _) rfl) ?_
 refine tk (i := 3) rfl (by kernel_rfl) rfl (H.sub (by repeat (first | exact List.Sublist.refl _ | exact List.nil_sublist _ | apply List.Sublist.cons_cons | apply List.Sublist.cons))) (fun w' H => r_sub rfl rfl (by first | exact w_u64 (by omega) | exact w_u64 (rng_u64 _) | exact m_u64 _)) ?_
 refine tk (i := 4) rfl (by kernel_rfl) rfl (H.sub (by repeat (first | exact List.Sublist.refl _ | exact List.nil_sublist _ | apply List.Sublist.cons_cons | apply List.Sublist.cons))) (fun w' H => r_fa rfl fo24_1) ?_
 refine tk (i := 5) rfl (by kernel_rfl) rfl (H.sub (by repeat (first | exact List.Sublist.refl _ | exact List.nil_sublist _ | apply List.Sublist.cons_cons | apply List.Sublist.cons))) (fun w' H => r_ld H rfl sc3 rfl) ?_
 refine fk (i := 6) (by kernel_rfl) rfl rfl rfl ?_
 refine cl ca21 (c_tabSectors _) rfl ?_
 rintro _ w10 ⟨rfl, F⟩
 replace H := H.keep F; clear F
 refine nl ?_
 refine then_n ?_
 refine ⟨H.sub (by repeat (first | exact List.Sublist.refl _ | exact List.nil_sublist _ | apply List.Sublist.cons_cons | apply List.Sublist.cons)), ?_⟩
 refine tk (i := 7) rfl (by kernel_rfl) rfl (H.sub (by repeat (first | exact List.Sublist.refl _ | exact List.nil_sublist _ | apply List.Sublist.cons_cons | apply List.Sublist.cons))) (fun w' H => r_sub (c := n - 34) rfl rfl (by rw [w_u64 (by omega)]; omega)) ?_
 refine fk (i := 8) (by kernel_rfl) rfl rfl rfl ?_
 refine cl ca45 (c_putLe _ _ _ _ _ _ _ _ H.look (by first | omega | ((try simp only [pAt_length, leB_len, gB_len, List.length_set, List.length_replicate]); omega)) (by omega)) rfl ?_
 rintro _ w11 ⟨rfl, hlen, F, hnew⟩
 replace H := H.put F hnew; clear F hnew
 refine nl ?_
 refine then_n ?_
 refine ⟨H.sub (by repeat (first | exact List.Sublist.refl _ | exact List.nil_sublist _ | apply List.Sublist.cons_cons | apply List.Sublist.cons)), ?_⟩
 refine da (by kernel_rfl) ?_
 refine then_n ?_
 refine sq ?_
 refine rg ?_
 refine fa rfl fo24_2 rfl ?_
 refine ld H rfl sc9 rfl rfl ?_
 refine cl ca22 (c_guidBytes _ _) rfl ?_
 rintro _ w12 ⟨rfl, F⟩
 replace H := H.keep F; clear F
 refine mv (v := .tuple _) rfl rfl ?_
 refine xt rfl rfl rfl ?_
 refine xt rfl rfl rfl ?_
 refine al H ze50 rfl ?_
 clear H; intro b3 w13 hb3 H _
 refine sa (cs' := Bs (gB gu)) H rfl rfl ag50_16 (by rw [Bs_length, gB_len]) (List.all_eq_true.2 Bs_one) (by decide) (by omega) (List.append_nil _) ?_
 clear H; intro w91 H _
 refine asg (v := .bool _) rfl rfl ?_
 refine nl ?_
 refine then_n ?_
 refine sq ?_
 refine dr (by kernel_rfl) ?_
 have H := H.drew
 refine hold (fun w' => SH w [] w' [⟨b1, .cells (gtCells D m c 512 gu pr rc).toArray 24 (0, 0), true⟩]) [] ?_
 refine tk (i := 0) rfl (by kernel_rfl) rfl (H.sub (by repeat (first | exact List.Sublist.refl _ | exact List.nil_sublist _ | apply List.Sublist.cons_cons | apply List.Sublist.cons))) (fun w' H => r_mv (v := .slice _ _ _) rfl) ?_
 refine tk (i := 1) rfl (by kernel_rfl) rfl (H.sub (by repeat (first | exact List.Sublist.refl _ | exact List.nil_sublist _ | apply List.Sublist.cons_cons | apply List.Sublist.cons))) (fun w' H => r_sllhN (56) (16) (456) rfl rfl rfl Tryz.underlying30 sz5_1 (by omega) (by omega)) ?_
 refine tk (i := 2) rfl (by kernel_rfl) rfl (H.sub (by repeat (first | exact List.Sublist.refl _ | exact List.nil_sublist _ | apply List.Sublist.cons_cons | apply List.Sublist.cons))) (fun w' H => r_slY rfl Tryz.underlying50 sz5_1 (by first | trivial | omega | (simp; omega))) ?_
 refine fk (i := 3) (by kernel_rfl) rfl rfl rfl ?_
 refine cpP (bs := gB gu) H rfl rfl Tryz.underlying30 sz5_1 (RB.allm H (gB_len gu)) (by omega) (by first | omega | ((try simp only [pAt_length, leB_len, gB_len, List.length_set, List.length_replicate]); omega)) (by omega) rfl ?_
 clear H; intro w14 H _ hlen
 refine nl ?_
 refine then_n ?_
 refine ⟨H.sub (by repeat (first | exact List.Sublist.refl _ | exact List.nil_sublist _ | apply List.Sublist.cons_cons | apply List.Sublist.cons)), ?_⟩
 refine da (by kernel_rfl) ?_
 refine then_n ?_
 refine sq ?_
 refine rg ?_
 refine mv (v := .slice _ _ _) rfl rfl ?_
 refine sllhN (72) (8) (440) rfl rfl rfl Tryz.underlying30 sz5_1 (by omega) (by omega) rfl ?_
 refine mv (v := .int .u64 _) rfl rfl ?_
 refine cl ca45 (c_putLe _ _ _ _ _ _ _ _ H.look (by first | omega | ((try simp only [pAt_length, leB_len, gB_len, List.length_set, List.length_replicate]); omega)) (by omega)) rfl ?_
 rintro _ w15 ⟨rfl, hlen, F, hnew⟩
 replace H := H.put F hnew; clear F hnew
 refine nl ?_
 refine then_n ?_
 refine sq ?_
 refine rg ?_
 refine mv (v := .slice _ _ _) rfl rfl ?_
 refine sllhN (80) (4) (432) rfl rfl rfl Tryz.underlying30 sz5_1 (by omega) (by omega) rfl ?_
 refine cl ca45 (c_putLe _ _ _ _ _ _ _ _ H.look (by first | omega | ((try simp only [pAt_length, leB_len, gB_len, List.length_set, List.length_replicate]); omega)) (by omega)) rfl ?_
 rintro _ w16 ⟨rfl, hlen, F, hnew⟩
 replace H := H.put F hnew; clear F hnew
 refine nl ?_
 refine then_n ?_
 refine sq ?_
 refine rg ?_
 refine mv (v := .slice _ _ _) rfl rfl ?_
 refine sllhN (84) (4) (428) rfl rfl rfl Tryz.underlying30 sz5_1 (by omega) (by omega) rfl ?_
 refine cl ca45 (c_putLe _ _ _ _ _ _ _ _ H.look (by first | omega | ((try simp only [pAt_length, leB_len, gB_len, List.length_set, List.length_replicate]); omega)) (by omega)) rfl ?_
 rintro _ w17 ⟨rfl, hlen, F, hnew⟩
 replace H := H.put F hnew; clear F hnew
 refine nl ?_
 refine then_n ?_
 refine sq ?_
 refine dr (by kernel_rfl) ?_
 have H := H.drew
 refine hold (fun w' => SH w [] w' [⟨b1, .cells (gtCells D m c 512 gu pr rc).toArray 24 (0, 0), true⟩]) [] ?_
 refine tk (i := 0) rfl (by kernel_rfl) rfl (H.sub (by repeat (first | exact List.Sublist.refl _ | exact List.nil_sublist _ | apply List.Sublist.cons_cons | apply List.Sublist.cons))) (fun w' H => r_mv (v := .slice _ _ _) rfl) ?_
 refine tk (i := 1) rfl (by kernel_rfl) rfl (H.sub (by repeat (first | exact List.Sublist.refl _ | exact List.nil_sublist _ | apply List.Sublist.cons_cons | apply List.Sublist.cons))) (fun w' H => r_sllhN (88) (4) (424) rfl rfl rfl Tryz.underlying30 sz5_1 (by omega) (by omega)) ?_
 refine tk (i := 2) rfl (by kernel_rfl) rfl (H.sub (by repeat (first | exact List.Sublist.refl _ | exact List.nil_sublist _ | apply List.Sublist.cons_cons | apply List.Sublist.cons))) (fun w' H => r_mv (v := .slice _ _ _) rfl) ?_
 refine fk (i := 3) (by kernel_rfl) rfl rfl rfl ?_
 refine cl ca46 (c_specCrc _ _ _ _ _ (hA.keep H.fr) (by omega)) rfl ?_
 rintro _ w18 ⟨rfl, F⟩
 replace H := H.keep F; clear F
 refine nl ?_
 refine then_n ?_
 refine ⟨H.sub (by repeat (first | exact List.Sublist.refl _ | exact List.nil_sublist _ | apply List.Sublist.cons_cons | apply List.Sublist.cons)), ?_⟩
 refine tk (i := 4) rfl (by kernel_rfl) rfl (H.sub (by repeat (first | exact List.Sublist.refl _ | exact List.nil_sublist _ | apply List.Sublist.cons_cons | apply List.Sublist.cons))) (fun w' H => r_cvi rfl rfl Tryz.underlying28 (by first | exact w_u64 (by omega) | exact w_u64 (rng_u64 _) | exact m_u64 _)) ?_
 refine fk (i := 5) (by kernel_rfl) rfl rfl rfl ?_
 refine cl ca45 (c_putLe _ _ _ _ _ _ _ _ H.look (by first | omega | ((try simp only [pAt_length, leB_len, gB_len, List.length_set, List.length_replicate]); omega)) (by omega)) rfl ?_
 rintro _ w19 ⟨rfl, hlen, F, hnew⟩
 replace H := H.put F hnew; clear F hnew
 replace H := sh_bytes1 H (hdr_put (gB_len gu))
 have hl9 := hdrS_len (s := 0) (a := a) (o := o) (e := e) (n := n) (c := crc32 arr) (gB_len gu)
 have hl10 : (hdrS 0 a o e n (gB gu) (crc32 arr) ++ List.replicate 420 0).length = 512 := by rw [List.length_append, hl9, List.length_replicate]
 have hcr2 := crc32_rng (hdrS 0 a o e n (gB gu) (crc32 arr))
 refine nl ?_
 refine then_n ?_
 refine ⟨H.sub (by repeat (first | exact List.Sublist.refl _ | exact List.nil_sublist _ | apply List.Sublist.cons_cons | apply List.Sublist.cons)), ?_⟩
 refine da (by kernel_rfl) ?_
 refine then_n ?_
 refine sq ?_
 refine dr (by kernel_rfl) ?_
 have H := H.drew
 refine hold (fun w' => SH w [] w' [⟨b1, .cells (gtCells D m c 512 gu pr rc).toArray 24 (0, 0), true⟩]) [] ?_
 refine tk (i := 0) rfl (by kernel_rfl) rfl (H.sub (by repeat (first | exact List.Sublist.refl _ | exact List.nil_sublist _ | apply List.Sublist.cons_cons | apply List.Sublist.cons))) (fun w' H => r_mv (v := .slice _ _ _) rfl) ?_
 refine tk (i := 1) rfl (by kernel_rfl) rfl (H.sub (by repeat (first | exact List.Sublist.refl _ | exact List.nil_sublist _ | apply List.Sublist.cons_cons | apply List.Sublist.cons))) (fun w' H => r_sllhN (16) (4) (496) rfl rfl rfl Tryz.underlying30 sz5_1 (by omega) (by omega)) ?_
 refine tk (i := 2) rfl (by kernel_rfl) rfl (H.sub (by repeat (first | exact List.Sublist.refl _ | exact List.nil_sublist _ | apply List.Sublist.cons_cons | apply List.Sublist.cons))) (fun w' H => r_mv (v := .slice _ _ _) rfl) ?_
 refine tk (i := 3) rfl (by kernel_rfl) rfl (H.sub (by repeat (first | exact List.Sublist.refl _ | exact List.nil_sublist _ | apply List.Sublist.cons_cons | apply List.Sublist.cons))) (fun w' H => r_slh rfl rfl Tryz.underlying30 sz5_1 (by first | trivial | omega | (simp; omega))) ?_
 refine fk (i := 4) (by kernel_rfl) rfl rfl rfl ?_
 refine cl ca46 (c_specCrc _ _ _ _ (hdrS 0 a o e n (gB gu) (crc32 arr)) (by have := RB.of (b := b2) (o := 0) (n := 92) H (by omega); rw [hdr_take (gB_len gu)] at this; exact this) (by decide)) rfl ?_
 rintro _ w20 ⟨rfl, F⟩
 replace H := H.keep F; clear F
 refine nl ?_
 refine then_n ?_
 refine ⟨H.sub (by repeat (first | exact List.Sublist.refl _ | exact List.nil_sublist _ | apply List.Sublist.cons_cons | apply List.Sublist.cons)), ?_⟩
 refine tk (i := 5) rfl (by kernel_rfl) rfl (H.sub (by repeat (first | exact List.Sublist.refl _ | exact List.nil_sublist _ | apply List.Sublist.cons_cons | apply List.Sublist.cons))) (fun w' H => r_cvi rfl rfl Tryz.underlying28 (by first | exact w_u64 (by omega) | exact w_u64 (rng_u64 _) | exact m_u64 _)) ?_
 refine fk (i := 6) (by kernel_rfl) rfl rfl rfl ?_
 refine cl ca45 (c_putLe _ _ _ _ _ _ _ _ H.look (by first | omega | ((try simp only [pAt_length, leB_len, gB_len, List.length_set, List.length_replicate]); omega)) (by omega)) rfl ?_
 rintro _ w21 ⟨rfl, hlen, F, hnew⟩
 replace H := H.put F hnew; clear F hnew
 refine nl ?_
 refine then_n ?_
 refine ⟨H.sub (by repeat (first | exact List.Sublist.refl _ | exact List.nil_sublist _ | apply List.Sublist.cons_cons | apply List.Sublist.cons)), ?_⟩
 refine da (by kernel_rfl) ?_
 refine then_n ?_
 refine sq ?_
 refine rg ?_
 refine mv (v := .slice _ _ _) rfl rfl ?_
 refine asg (v := .slice _ _ _) rfl rfl ?_
 refine nl ?_
 refine then_n ?_
 refine rt ?_
 refine fin_r ?_
 have e0 := H.look (b := b2)
 exact ⟨b2, rfl, H.ge, e0.trans (congrArg (fun l => some (Obj.cells (Bs l).toArray 5 (0, 0))) (hdr_sum (gB_len gu) _)), H.fr⟩

set_option maxRecDepth 100000 in
set_option maxHeartbeats 1000000 in
theorem c_gptEncode (w : World) (b n k : Nat) (T : TypeId) (ds : List UInt8) (D : Option Addr) (m c : Nat) (gu : List UInt8) (rc : Bool) (ps : List GP) (hb : w.heap[b]? = some (.cells (Bs ds).toArray T (0, 0))) (hn : 80 ≤ n ∧ n ≤ 1000) (hk : n * 512 ≤ k) (hd : ds.length = n * 512) (hq : RG w D m c ps) (hm : m ≤ 200) (hf : ∀ p ∈ ps, p.fit ∧ p.fits) : Calls Tryz.prog 12 #[.slice (some ⟨b, 0, none⟩) (n * 512) k, .agg (gtCells D m c 512 gu true rc).toArray] w (Ret fun v w' => v = .tuple #[] ∧ (encB ds n gu ps).length = ds.length ∧ Fr [b] w w' ∧ w'.heap[b]? = some (.cells (Bs (encB ds n gu ps)).toArray T (0, 0))) := by
 refine enter (fun _ => .tuple #[]) Tryz.func12 rfl rfl rfl (res0 rfl) ?_
 have H := SH.rw1 hb
 have hal := arrB_len fun p hp => (hf p hp).2
 refine sq ?_
 refine rg ?_
 refine bx (v := .agg _) H rfl rfl rfl ?_
 clear H; intro b1 w1 hb1 H _
 refine nl ?_
 refine then_n ?_
 refine sq ?_
 refine rg ?_
 rename_i F0
 refine fa rfl fo24_1 rfl ?_
 refine ld H rfl sc3 rfl rfl ?_
 refine cvi rfl rfl Tryz.underlying28 (by first | exact w_u64 (by omega) | exact w_u64 (rng_u64 _) | exact m_u64 _) rfl ?_
 refine asg (v := .int .u64 _) rfl rfl ?_
 refine nl ?_
 refine then_n ?_
 refine sq ?_
 refine rg ?_
 refine mv (v := .slice _ _ _) rfl rfl ?_
 refine lnS rfl Tryz.underlying30 rfl ?_
 refine cvi rfl rfl Tryz.underlying28 (by first | exact w_u64 (by omega) | exact w_u64 (rng_u64 _) | exact m_u64 _) rfl ?_
 refine mv (v := .int .u64 _) rfl rfl ?_
 refine quo (c := (n : Int)) rfl rfl (by omega) (by omega) (by rw [w_u64 (by omega)]; omega) rfl ?_
 refine asg (v := .int .u64 _) rfl rfl ?_
 refine nl ?_
 refine then_n ?_
 refine sq ?_
 refine rg ?_
 refine la H rfl ag24_5 rfl rfl rfl ?_
 refine cl ca27 (c_gptArray _ D m c gu true rc ps (hq.keep F0) (by omega) hf) rfl ?_
 rintro _ w2 ⟨b2, rfl, hb2, ho2, F⟩
 replace H := H.new F hb2 ho2; clear F ho2
 refine asg (v := .slice _ _ _) rfl rfl ?_
 refine nl ?_
 refine then_n ?_
 refine sq ?_
 refine sq ?_
 refine rg ?_
 refine fa rfl fo24_3 rfl ?_
 refine ld H rfl sc4 rfl rfl ?_
 refine nl ?_
 refine then_n ?_
 refine cbT rfl rfl ?_
 refine rg ?_
 refine mv (v := .slice _ _ _) rfl rfl ?_
 refine slh rfl rfl Tryz.underlying30 sz5_1 (by first | trivial | omega | (simp; omega)) rfl ?_
 refine mv (v := .int .u64 _) rfl rfl ?_
 refine sub rfl rfl (by first | exact w_u64 (by omega) | exact w_u64 (rng_u64 _) | exact m_u64 _) rfl ?_
 refine min2 rfl rfl rfl ?_
 refine cvi (c := (n : Int) - 1) rfl rfl Tryz.underlying58 (by rw [w_u32 (by omega)]; omega) rfl ?_
 refine bu (out := ?o1) ze62 bo62 ?f1 rfl ?_
 case f1 =>
  refine FL.one (v := .int .u8 _) rfl pl62_0 rfl (by first | decide | simp) ?_
  refine FL.one (v := .int .u8 _) rfl pl62_1 rfl (by first | decide | simp) ?_
  refine FL.one (v := .int .u8 _) rfl pl62_2 rfl (by first | decide | simp) ?_
  refine FL.one (v := .int .u8 _) rfl pl62_3 rfl (by first | decide | simp) ?_
  refine FL.one (v := .int .u8 _) rfl pl62_4 rfl (by first | decide | simp) ?_
  refine FL.one (v := .int .u8 _) rfl pl62_5 rfl (by first | decide | simp) ?_
  exact FL.nil
 refine bu (out := ?o2) ze64 bo64 ?f2 rfl ?_
 case f2 =>
  refine FL.one (v := .int .u8 _) rfl pl64_2 rfl (by first | decide | simp) ?_
  refine FL.one (v := .int .u32 _) rfl pl64_3 rfl (by first | decide | simp) ?_
  refine FL.one (v := .int .u32 _) rfl pl64_4 rfl (by first | decide | simp) ?_
  refine FL.agg rfl pl64_5 rfl (by first | decide | simp) ?_
  exact FL.nil
 refine bu (out := ?o3) ze65 bo65 ?f3 rfl ?_
 case f3 =>
  refine FL.agg rfl pl65_0 rfl (by first | decide | simp) ?_
  exact FL.nil
 refine cl ca28 (c_mbrEncode _ _ _ _ _ _ (protM n) (H.look (b := b)) (by omega) (by decide) (by omega) rfl (protM_ok (by omega))) rfl ?_
 rintro _ w3 ⟨rfl, hlen, F, hnew⟩
 replace H := H.put (b := b) F hnew; clear F hnew
 refine nl ?_
 refine then_n ?_
 refine sq ?_
 refine dr (by kernel_rfl) ?_
 have H := H.drew
 refine hold (fun w' => SH w [b] w' [⟨b1, .cells (gtCells D m c 512 gu true rc).toArray 24 (0, 0), true⟩]) [] ?_
 refine tk (i := 0) rfl (by kernel_rfl) rfl (H.sub (by repeat (first | exact List.Sublist.refl _ | exact List.nil_sublist _ | apply List.Sublist.cons_cons | apply List.Sublist.cons))) (fun w' H => r_mv (v := .slice _ _ _) rfl) ?_
 refine tk (i := 1) rfl (by kernel_rfl) rfl (H.sub (by repeat (first | exact List.Sublist.refl _ | exact List.nil_sublist _ | apply List.Sublist.cons_cons | apply List.Sublist.cons))) (fun w' H => r_mv (v := .int .u64 _) rfl) ?_
 refine tk (i := 2) rfl (by kernel_rfl) rfl (H.sub (by repeat (first | exact List.Sublist.refl _ | exact List.nil_sublist _ | apply List.Sublist.cons_cons | apply List.Sublist.cons))) (fun w' H => r_sllN (512) (n * 512 - 512) (k - 512) rfl rfl Tryz.underlying30 sz5_1 (by omega) (by omega)) ?_
 refine tk (i := 3) rfl (by kernel_rfl) rfl (H.sub (by repeat (first | exact List.Sublist.refl _ | exact List.nil_sublist _ | apply List.Sublist.cons_cons | apply List.Sublist.cons))) (fun w' H => r_la H rfl ag24_5 rfl rfl) ?_
 refine tk (i := 4) rfl (by kernel_rfl) rfl (H.sub (by repeat (first | exact List.Sublist.refl _ | exact List.nil_sublist _ | apply List.Sublist.cons_cons | apply List.Sublist.cons))) (fun w' H => r_mv (v := .int .u64 _) rfl) ?_
 refine tk (i := 5) rfl (by kernel_rfl) rfl (H.sub (by repeat (first | exact List.Sublist.refl _ | exact List.nil_sublist _ | apply List.Sublist.cons_cons | apply List.Sublist.cons))) (fun w' H => r_sub rfl rfl (by first | exact w_u64 (by omega) | exact w_u64 (rng_u64 _) | exact m_u64 _)) ?_
 refine tk (i := 6) rfl (by kernel_rfl) rfl (H.sub (by repeat (first | exact List.Sublist.refl _ | exact List.nil_sublist _ | apply List.Sublist.cons_cons | apply List.Sublist.cons))) (fun w' H => r_mv (v := .int .u64 _) rfl) ?_
 refine tk (i := 7) rfl (by kernel_rfl) rfl (H.sub (by repeat (first | exact List.Sublist.refl _ | exact List.nil_sublist _ | apply List.Sublist.cons_cons | apply List.Sublist.cons))) (fun w' H => r_mv (v := .slice _ _ _) rfl) ?_
 refine fk (i := 8) (by kernel_rfl) rfl rfl rfl ?_
 refine cl ca29 (c_gptHeader _ D m c gu true rc 1 ((n : Int) - 1) 2 (n : Int) (some ⟨b2, 0, none⟩) 16384 16384 (arrB ps) (RB.allm (b := b2) H hal) (by decide) (by omega) (by omega) (by omega) (by omega)) rfl ?_
 rintro _ w4 ⟨b3, rfl, hb3, ho3, F⟩
 replace H := H.new F hb3 ho3; clear F ho3
 refine nl ?_
 refine then_n ?_
 refine ⟨H.sub (by repeat (first | exact List.Sublist.refl _ | exact List.nil_sublist _ | apply List.Sublist.cons_cons | apply List.Sublist.cons)), ?_⟩
 refine fk (i := 9) (by kernel_rfl) rfl rfl rfl ?_
 refine cpP (bs := (hdrB 1 ((n : Int) - 1) 2 n (gB gu) (crc32 (arrB ps)))) H rfl rfl Tryz.underlying30 sz5_1 (RB.allm H (hdrB_len (gB_len gu))) (by omega) (by omega) (by omega) rfl ?_
 clear H; intro w5 H _ hlen
 refine nl ?_
 refine then_n ?_
 refine ⟨H.sub (by repeat (first | exact List.Sublist.refl _ | exact List.nil_sublist _ | apply List.Sublist.cons_cons | apply List.Sublist.cons)), ?_⟩
 refine da (by kernel_rfl) ?_
 refine then_n ?_
 refine sq ?_
 refine rg ?_
 refine mv (v := .slice _ _ _) rfl rfl ?_
 refine mv (v := .int .u64 _) rfl rfl ?_
 refine mul rfl rfl (by first | exact w_u64 (by omega) | exact w_u64 (rng_u64 _) | exact m_u64 _) rfl ?_
 refine sllN (1024) (n * 512 - 1024) (k - 1024) rfl rfl Tryz.underlying30 sz5_1 (by omega) (by omega) rfl ?_
 refine mv (v := .slice _ _ _) rfl rfl ?_
 refine cpP (bs := arrB ps) H rfl rfl Tryz.underlying30 sz5_1 (RB.allm H hal) (by omega) (by omega) (by omega) rfl ?_
 clear H; intro w6 H _ hlen
 refine nl ?_
 refine then_n ?_
 refine sq ?_
 refine rg ?_
 refine mv (v := .int .u64 _) rfl rfl ?_
 refine sub rfl rfl (by first | exact w_u64 (by omega) | exact w_u64 (rng_u64 _) | exact m_u64 _) rfl ?_
 refine fa rfl fo24_1 rfl ?_
 refine ld H rfl sc3 rfl rfl ?_
 refine cl ca21 (c_tabSectors _) rfl ?_
 rintro _ w7 ⟨rfl, F⟩
 replace H := H.keep F; clear F
 refine sub (c := (n : Int) - 33) rfl rfl (by rw [w_u64 (by omega)]; omega) rfl ?_
 refine asg (v := .int .u64 _) rfl rfl ?_
 refine nl ?_
 refine then_n ?_
 refine sq ?_
 refine rg ?_
 refine mv (v := .slice _ _ _) rfl rfl ?_
 refine mv (v := .int .u64 _) rfl rfl ?_
 refine mv (v := .int .u64 _) rfl rfl ?_
 refine mul rfl rfl (by first | exact w_u64 (by omega) | exact w_u64 (rng_u64 _) | exact m_u64 _) rfl ?_
 refine sllN ((n - 33) * 512) (n * 512 - (n - 33) * 512) (k - (n - 33) * 512) rfl rfl Tryz.underlying30 sz5_1 (by omega) (by omega) rfl ?_
 refine mv (v := .slice _ _ _) rfl rfl ?_
 refine cpP (bs := arrB ps) H rfl rfl Tryz.underlying30 sz5_1 (RB.allm H hal) (by omega) (by omega) (by omega) rfl ?_
 clear H; intro w8 H _ hlen
 refine nl ?_
 refine then_n ?_
 refine dr (by kernel_rfl) ?_
 have H := H.drew
 refine hold (fun w' => SH w [b] w' [⟨b1, .cells (gtCells D m c 512 gu true rc).toArray 24 (0, 0), true⟩]) [] ?_
 refine tk (i := 0) rfl (by kernel_rfl) rfl (H.sub (by repeat (first | exact List.Sublist.refl _ | exact List.nil_sublist _ | apply List.Sublist.cons_cons | apply List.Sublist.cons))) (fun w' H => r_mv (v := .slice _ _ _) rfl) ?_
 refine tk (i := 1) rfl (by kernel_rfl) rfl (H.sub (by repeat (first | exact List.Sublist.refl _ | exact List.nil_sublist _ | apply List.Sublist.cons_cons | apply List.Sublist.cons))) (fun w' H => r_mv (v := .int .u64 _) rfl) ?_
 refine tk (i := 2) rfl (by kernel_rfl) rfl (H.sub (by repeat (first | exact List.Sublist.refl _ | exact List.nil_sublist _ | apply List.Sublist.cons_cons | apply List.Sublist.cons))) (fun w' H => r_sub rfl rfl (by first | exact w_u64 (by omega) | exact w_u64 (rng_u64 _) | exact m_u64 _)) ?_
 refine tk (i := 3) rfl (by kernel_rfl) rfl (H.sub (by repeat (first | exact List.Sublist.refl _ | exact List.nil_sublist _ | apply List.Sublist.cons_cons | apply List.Sublist.cons))) (fun w' H => r_mv (v := .int .u64 _) rfl) ?_
 refine tk (i := 4) rfl (by kernel_rfl) rfl (H.sub (by repeat (first | exact List.Sublist.refl _ | exact List.nil_sublist _ | apply List.Sublist.cons_cons | apply List.Sublist.cons))) (fun w' H => r_mul rfl rfl (by first | exact w_u64 (by omega) | exact w_u64 (rng_u64 _) | exact m_u64 _)) ?_
 refine tk (i := 5) rfl (by kernel_rfl) rfl (H.sub (by repeat (first | exact List.Sublist.refl _ | exact List.nil_sublist _ | apply List.Sublist.cons_cons | apply List.Sublist.cons))) (fun w' H => r_sllN ((n - 1) * 512) (512) (k - (n - 1) * 512) rfl rfl Tryz.underlying30 sz5_1 (by omega) (by omega)) ?_
 refine tk (i := 6) rfl (by kernel_rfl) rfl (H.sub (by repeat (first | exact List.Sublist.refl _ | exact List.nil_sublist _ | apply List.Sublist.cons_cons | apply List.Sublist.cons))) (fun w' H => r_la H rfl ag24_5 rfl rfl) ?_
 refine tk (i := 7) rfl (by kernel_rfl) rfl (H.sub (by repeat (first | exact List.Sublist.refl _ | exact List.nil_sublist _ | apply List.Sublist.cons_cons | apply List.Sublist.cons))) (fun w' H => r_mv (v := .int .u64 _) rfl) ?_
 refine tk (i := 8) rfl (by kernel_rfl) rfl (H.sub (by repeat (first | exact List.Sublist.refl _ | exact List.nil_sublist _ | apply List.Sublist.cons_cons | apply List.Sublist.cons))) (fun w' H => r_sub rfl rfl (by first | exact w_u64 (by omega) | exact w_u64 (rng_u64 _) | exact m_u64 _)) ?_
 refine tk (i := 9) rfl (by kernel_rfl) rfl (H.sub (by repeat (first | exact List.Sublist.refl _ | exact List.nil_sublist _ | apply List.Sublist.cons_cons | apply List.Sublist.cons))) (fun w' H => r_mv (v := .int .u64 _) rfl) ?_
 refine tk (i := 10) rfl (by kernel_rfl) rfl (H.sub (by repeat (first | exact List.Sublist.refl _ | exact List.nil_sublist _ | apply List.Sublist.cons_cons | apply List.Sublist.cons))) (fun w' H => r_mv (v := .int .u64 _) rfl) ?_
 refine tk (i := 11) rfl (by kernel_rfl) rfl (H.sub (by repeat (first | exact List.Sublist.refl _ | exact List.nil_sublist _ | apply List.Sublist.cons_cons | apply List.Sublist.cons))) (fun w' H => r_mv (v := .slice _ _ _) rfl) ?_
 refine fk (i := 12) (by kernel_rfl) rfl rfl rfl ?_
 refine cl ca29 (c_gptHeader _ D m c gu true rc ((n : Int) - 1) 1 ((n : Int) - 33) (n : Int) (some ⟨b2, 0, none⟩) 16384 16384 (arrB ps) (RB.allm (b := b2) H hal) (by decide) (by omega) (by omega) (by omega) (by omega)) rfl ?_
 rintro _ w9 ⟨b4, rfl, hb4, ho4, F⟩
 replace H := H.new F hb4 ho4; clear F ho4
 refine nl ?_
 refine then_n ?_
 refine ⟨H.sub (by repeat (first | exact List.Sublist.refl _ | exact List.nil_sublist _ | apply List.Sublist.cons_cons | apply List.Sublist.cons)), ?_⟩
 refine fk (i := 13) (by kernel_rfl) rfl rfl rfl ?_
 refine cpP (bs := (hdrB ((n : Int) - 1) 1 ((n : Int) - 33) n (gB gu) (crc32 (arrB ps)))) H rfl rfl Tryz.underlying30 sz5_1 (RB.allm H (hdrB_len (gB_len gu))) (by omega) (by omega) (by omega) rfl ?_
 clear H; intro w10 H _ hlen
 refine nl ?_
 refine then_n ?_
 refine ⟨H.sub (by repeat (first | exact List.Sublist.refl _ | exact List.nil_sublist _ | apply List.Sublist.cons_cons | apply List.Sublist.cons)), ?_⟩
 refine da (by kernel_rfl) ?_
 refine fin_n ?_
 exact ⟨rfl, by unfold encB; omega, H.fr, H.look⟩

end Go.Proofs.YthcaejaaalkglaaGreatDoor.X
/- Identifiers as the package orders and prints them. -/
namespace Go.Proofs.YthcaejaaalkglaaGreatDoor.X
open Go
set_option linter.unusedVariables false
set_option linter.unusedSimpArgs false
/-- Two bytes change places. -/
def swU (xs : List UInt8) (i j : Nat) : List UInt8 := (xs.set i (xs.getD j 0)).set j (xs.getD i 0)
def rvN (xs : List UInt8) (o n : Nat) : Nat → List UInt8
  | 0 => xs
  | k + 1 => swU (rvN xs o n k) (o + k) (o + (n - 1 - k))
theorem rvN_len (xs : List UInt8) (o n : Nat) : ∀ k, (rvN xs o n k).length = xs.length
  | 0 => rfl
  | k + 1 => by simp [rvN, swU, rvN_len xs o n k]
def permB (b : List UInt8) : List UInt8 := ordL.map fun k => b.getD k 0
theorem permB_len (b : List UInt8) : (permB b).length = 16 := rfl
theorem list16 {b : List UInt8} (h : b.length = 16) : ∃ b0 b1 b2 b3 b4 b5 b6 b7 b8 b9 b10 b11 b12 b13 b14 b15, b = [b0, b1, b2, b3, b4, b5, b6, b7, b8, b9, b10, b11, b12, b13, b14, b15] := by
  match b, h with
  | [b0, b1, b2, b3, b4, b5, b6, b7, b8, b9, b10, b11, b12, b13, b14, b15], _ => exact ⟨b0, b1, b2, b3, b4, b5, b6, b7, b8, b9, b10, b11, b12, b13, b14, b15, rfl⟩
theorem rv_perm {b : List UInt8} (h : b.length = 16) : rvN (rvN (rvN b 0 4 2) 4 2 1) 6 2 1 = permB b := by
  obtain ⟨b0, b1, b2, b3, b4, b5, b6, b7, b8, b9, b10, b11, b12, b13, b14, b15, rfl⟩ := list16 h
  rfl
theorem permB_permB {b : List UInt8} (h : b.length = 16) : permB (permB b) = b := by
  obtain ⟨b0, b1, b2, b3, b4, b5, b6, b7, b8, b9, b10, b11, b12, b13, b14, b15, rfl⟩ := list16 h
  rfl
/-- What Parse gives. -/
def parB (s : List UInt8) : List UInt8 := tPos.map (byteAt s)
theorem perm_par (s : List UInt8) : permB (parB s) = gRaw s := rfl
theorem perm_raw (s : List UInt8) : permB (gRaw s) = parB s := rfl
/-- The text that String gives. -/
def hexC : List UInt8 := [48, 49, 50, 51, 52, 53, 54, 55, 56, 57, 97, 98, 99, 100, 101, 102]
def sTk (u : List UInt8) (k : Nat) : List UInt8 := (if dashT k then [45] else []) ++ [hexC.getD ((u.getD k 0).toNat / 16) 0, hexC.getD ((u.getD k 0).toNat % 16) 0]
def sTp (u : List UInt8) (i : Nat) : List UInt8 := (List.range i).flatMap (sTk u)
def sT (u : List UInt8) : List UInt8 := sTp u 16
theorem sTp_succ (u : List UInt8) (i : Nat) : sTp u (i + 1) = sTp u i ++ sTk u i := by simp [sTp, List.range_succ]
theorem sTp_len (u : List UInt8) : ∀ i, (sTp u i).length ≤ 3 * i
  | 0 => by simp [sTp]
  | i + 1 => by
    rw [sTp_succ, List.length_append]
    have := sTp_len u i
    have : (sTk u i).length ≤ 3 := by unfold sTk; split <;> simp
    omega
/-- A letter in capitals. -/
def upB (c : UInt8) : UInt8 := if 97 ≤ c.toNat ∧ c.toNat ≤ 122 then b8 ((c.toNat : Int) - 32) else c
def upL (s : List UInt8) : List UInt8 := s.map upB
/-- The first i letters in capitals. -/
def upP (s : List UInt8) (i : Nat) : List UInt8 := upL (s.take i) ++ s.drop i
theorem upP_len (s : List UInt8) (i : Nat) : (upP s i).length = s.length := by simp [upP, upL]; omega
theorem upP_zero (s : List UInt8) : upP s 0 = s := by simp [upP, upL]
theorem upP_all {s : List UInt8} {i : Nat} (h : s.length ≤ i) : upP s i = upL s := by simp [upP, List.take_of_length_le h, List.drop_of_length_le h]
theorem upP_getD {s : List UInt8} {i : Nat} : (upP s i).getD i 0 = s.getD i 0 := by
  unfold upP upL
  simp only [List.getD_eq_getElem?_getD]
  by_cases h : i < s.length
  · rw [List.getElem?_append_right (by simp; omega)]
    simp [show min i s.length = i by omega]
  · rw [List.drop_of_length_le (by omega), List.append_nil]
    rw [List.getElem?_eq_none (by simp; omega), List.getElem?_eq_none (by omega)]
theorem upP_succ {s : List UInt8} {i : Nat} (h : i < s.length) : upP s (i + 1) = (upP s i).set i (upB (s.getD i 0)) := by
  unfold upP upL
  rw [List.set_append_right _ _ (by simp; omega), List.length_map, List.length_take, show i - min i s.length = 0 by omega, List.drop_eq_getElem_cons h, List.set_cons_zero]
  rw [List.take_succ_eq_append_getElem h, List.map_append]
  simp only [List.getD_eq_getElem?_getD, List.getElem?_eq_getElem h, Option.getD_some, List.append_assoc, List.map_cons, List.map_nil]
  rfl
theorem up_at {s J : List UInt8} {i : Nat} (h : i < s.length) : (upP s i ++ J)[i]? = some (s.getD i 0) := by
  have := upP_len s i
  rw [List.getElem?_append_left (by omega), ← upP_getD, List.getD_eq_getElem?_getD, List.getElem?_eq_getElem (by omega)]; rfl
theorem up_fin {s J : List UInt8} {i : Nat} (h : s.length ≤ i) : ((upP s i ++ J).drop 0).take s.length = upL s := by
  rw [List.drop_zero, upP_all h, show s.length = (upL s).length by simp [upL], List.take_left]
theorem upP_same {s : List UInt8} {i : Nat} (h : i < s.length) (h2 : ¬ (97 ≤ (s.getD i 0).toNat ∧ (s.getD i 0).toNat ≤ 122)) : upP s (i + 1) = upP s i := by
  rw [upP_succ h, upB, if_neg h2, ← upP_getD]
  have := upP_len s i
  rw [List.getD_eq_getElem?_getD, List.getElem?_eq_getElem (by omega), Option.getD_some, List.set_getElem_self]
theorem upP_up {s : List UInt8} {i : Nat} (h : i < s.length) (h2 : 97 ≤ (s.getD i 0).toNat ∧ (s.getD i 0).toNat ≤ 122) : upP s (i + 1) = (upP s i).set i (b8 (((s.getD i 0).toNat : Int) - 32)) := by
  rw [upP_succ h, upB, if_pos h2]
theorem up_put {s J : List UInt8} {i : Nat} (h : i < s.length) (h2 : 97 ≤ (s.getD i 0).toNat ∧ (s.getD i 0).toNat ≤ 122) : (upP s i ++ J).set i (b8 (((s.getD i 0).toNat : Int) - 32)) = upP s (i + 1) ++ J := by
  have := upP_len s i
  rw [List.set_append_left _ _ (by omega), upP_up h h2]
theorem up_hex : ∀ k : Fin 16, upB (hexC.getD k.val 0) = capL.getD k.val 0 := by decide +kernel
theorem up_hex' {k : Nat} (h : k < 16) : upB (hexC.getD k 0) = capL.getD k 0 := up_hex ⟨k, h⟩
theorem up_sTk {b : List UInt8} {k : Nat} (h : b.length = 16) (hk : k < 16) : upL (sTk (permB b) k) = gTk b k := by
  have e : (permB b).getD k 0 = b.getD (ordL.getD k 0) 0 := by
    unfold permB
    have : k < ordL.length := hk
    simp [List.getD_eq_getElem?_getD, this]
  unfold sTk gTk upL
  rw [e]
  have hc := UInt8.toNat_lt (b.getD (ordL.getD k 0) 0)
  rw [List.map_append, List.map_cons, List.map_cons, List.map_nil, up_hex' (by omega), up_hex' (by omega)]
  congr 1
  split <;> rfl
theorem up_sT {b : List UInt8} (h : b.length = 16) : upL (sT (permB b)) = gT b := by
  have key : ∀ i, i ≤ 16 → upL (sTp (permB b) i) = gTp b i := by
    intro i
    induction i with
    | zero => intro _; rfl
    | succ i ih =>
      intro hi
      rw [sTp_succ, gTp_succ, ← ih (by omega), ← up_sTk h (by omega)]
      simp [upL]
  exact key 16 (Nat.le_refl _)
/-! ### a text's identifier, read again -/
theorem hexN_cap : ∀ k : Fin 16, hexN ((capL.getD k.val 0).toNat : Int) = k.val := by decide +kernel
theorem hexN_cap' {k : Nat} (h : k < 16) : hexN ((capL.getD k 0).toNat : Int) = k := hexN_cap ⟨k, h⟩
theorem gT_len {b : List UInt8} (h : b.length = 16) : (gT b).length = 36 := rfl
theorem nibs (c : UInt8) : b8 (((c.toNat / 16 : Nat) : Int) * 16 + ((c.toNat % 16 : Nat) : Int)) = c := by
  have : ((c.toNat / 16 : Nat) : Int) * 16 + ((c.toNat % 16 : Nat) : Int) = (c.toNat : Int) := by omega
  rw [this, b8_toNat]
theorem gT_ok {b : List UInt8} (h : b.length = 16) : gOk (gT b) = true ∧ gRaw (gT b) = b := by
  obtain ⟨b0, b1, b2, b3, b4, b5, b6, b7, b8', b9, b10, b11, b12, b13, b14, b15, rfl⟩ := list16 h
  generalize hb : [b0, b1, b2, b3, b4, b5, b6, b7, b8', b9, b10, b11, b12, b13, b14, b15] = b at *
  have l := fun c : UInt8 => UInt8.toNat_lt c
  have hi : ∀ c : UInt8, hexN ((capL.getD (c.toNat / 16) 0).toNat : Int) = ((c.toNat / 16 : Nat) : Int) := fun c => hexN_cap' (by have := l c; omega)
  have lo : ∀ c : UInt8, hexN ((capL.getD (c.toNat % 16) 0).toNat : Int) = ((c.toNat % 16 : Nat) : Int) := fun c => hexN_cap' (by omega)
  have e : gT b = [capL.getD (b3.toNat / 16) 0, capL.getD (b3.toNat % 16) 0, capL.getD (b2.toNat / 16) 0, capL.getD (b2.toNat % 16) 0, capL.getD (b1.toNat / 16) 0, capL.getD (b1.toNat % 16) 0, capL.getD (b0.toNat / 16) 0, capL.getD (b0.toNat % 16) 0, 45,
      capL.getD (b5.toNat / 16) 0, capL.getD (b5.toNat % 16) 0, capL.getD (b4.toNat / 16) 0, capL.getD (b4.toNat % 16) 0, 45, capL.getD (b7.toNat / 16) 0, capL.getD (b7.toNat % 16) 0, capL.getD (b6.toNat / 16) 0, capL.getD (b6.toNat % 16) 0, 45,
      capL.getD (b8'.toNat / 16) 0, capL.getD (b8'.toNat % 16) 0, capL.getD (b9.toNat / 16) 0, capL.getD (b9.toNat % 16) 0, 45,
      capL.getD (b10.toNat / 16) 0, capL.getD (b10.toNat % 16) 0, capL.getD (b11.toNat / 16) 0, capL.getD (b11.toNat % 16) 0, capL.getD (b12.toNat / 16) 0, capL.getD (b12.toNat % 16) 0, capL.getD (b13.toNat / 16) 0, capL.getD (b13.toNat % 16) 0, capL.getD (b14.toNat / 16) 0, capL.getD (b14.toNat % 16) 0, capL.getD (b15.toNat / 16) 0, capL.getD (b15.toNat % 16) 0] := by
    subst hb; rfl
  constructor
  · refine gOk_of (gT_len (by rw [← hb]; rfl)) ?_
    intro j hj
    have hx : ∀ k, k < 36 → dashB k = false → 0 ≤ nib (gT b) k := by
      intro k hk
      rw [e]
      unfold nib
      revert hk
      match k with
      | 0 | 2 | 4 | 6 | 9 | 11 | 14 | 16 | 19 | 21 | 24 | 26 | 28 | 30 | 32 | 34 => intro _ _; exact Int.le_trans (Int.natCast_nonneg _) (Int.le_of_eq (hi _).symm)
      | 1 | 3 | 5 | 7 | 10 | 12 | 15 | 17 | 20 | 22 | 25 | 27 | 29 | 31 | 33 | 35 => intro _ _; exact Int.le_trans (Int.natCast_nonneg _) (Int.le_of_eq (lo _).symm)
      | 8 | 13 | 18 | 23 => intro _ h; cases h
      | n + 36 => intro h; exact absurd h (by omega)
    by_cases hd : dashB j = true
    · refine okAt_dash hd ?_
      unfold dashB at hd
      simp only [Bool.or_eq_true, beq_iff_eq] at hd
      rw [e]
      rcases hd with ((rfl | rfl) | rfl) | rfl <;> rfl
    · have hd' : dashB j = false := by simpa using hd
      exact okAt_hex hd' (by have := hx j hj hd'; omega)
  · have key : ∀ (p : Nat) (c : UInt8), nib (gT b) p = ((c.toNat / 16 : Nat) : Int) → nib (gT b) (p + 1) = ((c.toNat % 16 : Nat) : Int) → byteAt (gT b) p = c := fun p c h1 h2 => by
      unfold byteAt; rw [h1, h2]; exact nibs c
    have kk : ∀ (p : Nat) (c : UInt8), (gT b).getD p 0 = capL.getD (c.toNat / 16) 0 → (gT b).getD (p + 1) 0 = capL.getD (c.toNat % 16) 0 → byteAt (gT b) p = c := fun p c h1 h2 => key p c (by unfold nib; rw [h1]; exact hi c) (by unfold nib; rw [h2]; exact lo c)
    have er : gRaw (gT b) = [byteAt (gT b) 6, byteAt (gT b) 4, byteAt (gT b) 2, byteAt (gT b) 0, byteAt (gT b) 11, byteAt (gT b) 9, byteAt (gT b) 16, byteAt (gT b) 14, byteAt (gT b) 19, byteAt (gT b) 21, byteAt (gT b) 24, byteAt (gT b) 26, byteAt (gT b) 28, byteAt (gT b) 30, byteAt (gT b) 32, byteAt (gT b) 34] := rfl
    rw [er, kk 6 b0 (by rw [e]; rfl) (by rw [e]; rfl), kk 4 b1 (by rw [e]; rfl) (by rw [e]; rfl), kk 2 b2 (by rw [e]; rfl) (by rw [e]; rfl), kk 0 b3 (by rw [e]; rfl) (by rw [e]; rfl), kk 11 b4 (by rw [e]; rfl) (by rw [e]; rfl), kk 9 b5 (by rw [e]; rfl) (by rw [e]; rfl), kk 16 b6 (by rw [e]; rfl) (by rw [e]; rfl), kk 14 b7 (by rw [e]; rfl) (by rw [e]; rfl), kk 19 b8' (by rw [e]; rfl) (by rw [e]; rfl), kk 21 b9 (by rw [e]; rfl) (by rw [e]; rfl), kk 24 b10 (by rw [e]; rfl) (by rw [e]; rfl), kk 26 b11 (by rw [e]; rfl) (by rw [e]; rfl), kk 28 b12 (by rw [e]; rfl) (by rw [e]; rfl), kk 30 b13 (by rw [e]; rfl) (by rw [e]; rfl), kk 32 b14 (by rw [e]; rfl) (by rw [e]; rfl), kk 34 b15 (by rw [e]; rfl) (by rw [e]; rfl), hb]
theorem gB_gT {b : List UInt8} (h : b.length = 16) : gB (gT b) = b := by
  have := gT_ok h
  rw [gB_ok this.1, this.2]
theorem gT_inj {a b : List UInt8} (ha : a.length = 16) (hb : b.length = 16) (h : gT a = gT b) : a = b := by
  rw [← gB_gT ha, ← gB_gT hb, h]
end Go.Proofs.YthcaejaaalkglaaGreatDoor.X
/- Walks of functions, printed by a program of this claim. -/
namespace Go.Proofs.YthcaejaaalkglaaGreatDoor.X
set_option linter.unusedVariables false
set_option linter.unusedSimpArgs false
open Go Go.RowKit

namespace PF
theorem ca85 : callable Tryz.prog 85 = true := by kernel_rfl
end PF
open PF

set_option maxRecDepth 100000 in
set_option maxHeartbeats 1000000 in
theorem c_rev (w : World) (b o n c : Nat) (T : TypeId) (xs : List UInt8) (junk : List Value) (hb : w.heap[b]? = some (.cells (Bs (xs) ++ junk).toArray T (0, 0))) (ho : o + n ≤ xs.length) (hn : n ≤ 1000) : Calls Tryz.prog 85 #[.slice (some ⟨b, o, none⟩) n c] w (Ret fun v w' => v = .tuple #[] ∧ Fr [b] w w' ∧ w'.heap[b]? = some (.cells (Bs (rvN xs o n (n / 2)) ++ junk).toArray T (0, 0))) := by
 refine enter (fun _ => .tuple #[]) Tryz.func85 rfl rfl rfl (res0 rfl) ?_
 have H := SH.rw1 hb
 refine sq ?_
 refine rg ?_
 refine mv (v := .slice _ _ _) rfl rfl ?_
 refine lnS rfl Tryz.underlying30 rfl ?_
 refine sub rfl rfl (by first | exact w_i64 (by omega) | exact w_i64 (rng_i64 _) | rfl) rfl ?_
 refine asg (v := .int .i64 _) rfl rfl ?_
 refine asg (v := .int .i64 _) rfl rfl ?_
 refine nl ?_
 refine then_n ?_
 refine bk ?_
 refine lpM (α := Nat) [2, 3, 7, 8, 9, 10, 11, 12, 13, 14, 15, 16, 17, 18, 19, 20, 21, 22, 23, 24, 25, 26, 27] (fun i => [(2, .int .i64 (i : Int)), (3, .int .i64 ((n : Int) - 1 - i))]) (fun i w' => i ≤ n / 2 ∧ SH w [b] w' [⟨b, .cells (Bs (rvN xs o n i) ++ junk).toArray T (0, 0), true⟩]) (fun i => n - i) 0 ?_ (fC (by first | rfl | exact congrArg (Value.int _) (by first | omega | assumption | (symm; assumption) | (simp; done) | (simp; omega)) | exact congrArg (fun n => Value.slice _ n _) (by first | omega | (simp; done) | (simp; omega))) (fC (by first | rfl | exact congrArg (Value.int _) (by first | omega | assumption | (symm; assumption) | (simp; done) | (simp; omega)) | exact congrArg (fun n => Value.slice _ n _) (by first | omega | (simp; done) | (simp; omega))) (fN _))) ?_
 ·exact ⟨by omega, H⟩
 ·rintro i ρx w1 ⟨hi, H⟩
  have hrl := rvN_len xs o n i
  refine sq ?_
  refine sq ?_
  refine rg ?_
  refine mv (v := .int .i64 _) rfl rfl ?_
  refine mv (v := .int .i64 _) rfl rfl ?_
  refine lss rfl rfl rfl ?_
  refine nl ?_
  refine then_n ?_
  refine cd rfl (fun hc1 => ?_) (fun hc1 => ?_)
  ·refine sk ?_
   refine then_n ?_
   refine sq ?_
   refine bk ?_
   refine dr (by kernel_rfl) ?_
   have H := H.drew
   refine hold (fun _ => True) [] ?_
   refine tk (i := 0) rfl (by kernel_rfl) rfl trivial (fun _ _ => r_mv (v := .slice _ _ _) rfl) ?_
   refine tk (i := 1) rfl (by kernel_rfl) rfl trivial (fun _ _ => r_mv (v := .int .i64 _) rfl) ?_
   refine tk (i := 2) rfl (by kernel_rfl) rfl trivial (fun _ _ => r_mv (v := .slice _ _ _) rfl) ?_
   refine tk (i := 3) rfl (by kernel_rfl) rfl trivial (fun _ _ => r_mv (v := .int .i64 _) rfl) ?_
   refine tk (i := 4) rfl (by kernel_rfl) rfl trivial (fun _ _ => r_mv (v := .slice _ _ _) rfl) ?_
   refine tk (i := 5) rfl (by kernel_rfl) rfl trivial (fun _ _ => r_mv (v := .int .i64 _) rfl) ?_
   refine tk (i := 6) rfl (by kernel_rfl) rfl trivial (fun _ _ => r_iaN (o + (n - 1 - i)) rfl rfl Tryz.underlying30 sz5_1 (by omega) (by omega)) ?_
   refine tk (i := 8) rfl (by kernel_rfl) rfl trivial (fun _ _ => r_mv (v := .slice _ _ _) rfl) ?_
   refine tk (i := 9) rfl (by kernel_rfl) rfl trivial (fun _ _ => r_mv (v := .int .i64 _) rfl) ?_
   refine tk (i := 10) rfl (by kernel_rfl) rfl trivial (fun _ _ => r_iaN (o + i) rfl rfl Tryz.underlying30 sz5_1 (by omega) (by omega)) ?_
   refine unfree ?_
   refine holdH H [13, 15] ?_
   refine tk (i := 7) rfl (by kernel_rfl) rfl H (fun w' H => r_ld (v := .int .u8 (((rvN xs o n i).getD (o + (n - 1 - i)) 0).toNat : Int)) H rfl sc5 (BJ_get (by omega))) ?_
   refine tk (i := 11) rfl (by kernel_rfl) rfl H (fun w' H => r_ld (v := .int .u8 (((rvN xs o n i).getD (o + i) 0).toNat : Int)) H rfl sc5 (BJ_get (by omega))) ?_
   refine tk (i := 12) rfl (by kernel_rfl) rfl H (fun w' H => r_iaN (o + i) rfl rfl Tryz.underlying30 sz5_1 (by omega) (by omega)) ?_
   refine fb (i := 13) (by kernel_rfl) rfl rfl rfl ?_
   refine st (v := .int .u8 _) H rfl rfl sc5 rfl (by rw [BJ_len]; omega) (by omega) ?_
   clear H; intro w91 H _
   replace H := sh_cells0 H (BJ_set (by omega))
   refine nl ?_
   refine then_n ?_
   refine holdH H [15] ?_
   refine tk (i := 14) rfl (by kernel_rfl) rfl H (fun w' H => r_iaN (o + (n - 1 - i)) rfl rfl Tryz.underlying30 sz5_1 (by omega) (by omega)) ?_
   refine fb (i := 15) (by kernel_rfl) rfl rfl rfl ?_
   refine st (v := .int .u8 _) H rfl rfl sc5 rfl (by rw [BJ_len]; simp; omega) (by omega) ?_
   clear H; intro w92 H _
   replace H := sh_cells0 H (BJ_set (by simp; omega))
   refine nl ?_
   refine then_n ?_
   refine dn (by kernel_rfl) ?_
   refine in_n ?_
   refine then_n ?_
   refine rg ?_
   refine mv (v := .int .i64 _) rfl rfl ?_
   refine add rfl rfl (by first | exact w_i64 (by omega) | exact w_i64 (rng_i64 _) | rfl) rfl ?_
   refine mv (v := .int .i64 _) rfl rfl ?_
   refine sub rfl rfl (by first | exact w_i64 (by omega) | exact w_i64 (rng_i64 _) | rfl) rfl ?_
   refine asg (v := .int .i64 _) rfl rfl ?_
   refine asg (v := .int .i64 _) rfl rfl ?_
   refine nl ?_
   refine loop_n ?_
   exact ⟨i + 1, (by (try dsimp only); omega), ⟨by omega, H⟩, (fC (by first | rfl | exact congrArg (Value.int _) (by first | omega | assumption | (symm; assumption) | (simp; done) | (simp; omega)) | exact congrArg (fun n => Value.slice _ n _) (by first | omega | (simp; done) | (simp; omega))) (fC (by first | rfl | exact congrArg (Value.int _) (by first | omega | assumption | (symm; assumption) | (simp; done) | (simp; omega)) | exact congrArg (fun n => Value.slice _ n _) (by first | omega | (simp; done) | (simp; omega))) (fN _))), (by repeat (first | exact Agree.setL rfl Agree.mask | exact Agree.self _ _ | refine Agree.upd rfl ?_ | refine Agree.setL rfl ?_ | refine Agree.mask2 rfl ?_))⟩
  ·refine ex ?_
   refine then_e ?_
   refine loop_e ?_
   refine in_hit rfl ?_
   refine fin_n ?_
   obtain rfl : i = n / 2 := by omega
   exact ⟨rfl, H.fr, H.look⟩

set_option maxRecDepth 100000 in
set_option maxHeartbeats 1000000 in
theorem c_toUUID (w : World) (B : Option Addr) (n c : Nat) (b : List UInt8) (hR : RB w B n b) (hn : n = 16) (hc : n ≤ c) (hB : ∃ q o, B = some ⟨q, o, none⟩) : Calls Tryz.prog 73 #[.slice B n c] w (Ret fun v w' => ∃ q cq junk, v = .slice (some ⟨q, 0, none⟩) 16 cq ∧ w.heap.size ≤ q ∧ w'.heap[q]? = some (.cells (Bs (permB b) ++ junk).toArray 5 (0, 0)) ∧ Fr [] w w') := by
 refine enter (fun ρ => ρ 2) Tryz.func73 rfl rfl rfl (res1 rfl) ?_
 obtain ⟨qB, oB, rfl⟩ := hB
 have H := SH.nil w
 have hRl := hR.1
 refine sq ?_
 refine rg ?_
 refine asg (v := .slice _ _ _) rfl rfl ?_
 refine nl ?_
 refine then_n ?_
 refine sq ?_
 refine rg ?_
 refine mkB H rfl rfl Tryz.underlying30 mi5 (by omega) (by omega) (by omega) (by omega) rfl ?_
 clear H; intro b1 w1 hb1 H _
 refine asg (v := .slice _ _ _) rfl rfl ?_
 refine nl ?_
 refine then_n ?_
 refine sq ?_
 refine rg ?_
 refine mv (v := .slice _ _ _) rfl rfl ?_
 refine mv (v := .slice _ _ _) rfl rfl ?_
 refine sllhN (oB) (16) (c) rfl rfl rfl Tryz.underlying30 sz5_1 (by omega) (by omega) rfl ?_
 refine apS (zs := [.int .u8 0]) (Bs b) (OR.made (n := 0) H (by decide) (by decide) rfl) rfl rfl Tryz.underlying30 ri5 (by rw [Bs_length, hRl, hn]; rfl) (RB.cells (n := 16) (by rw [hn] at hR; exact hR.keep H.fr)) Bs_one (by simp) (by omega) (by unfold maxLen; omega) rfl ?_
 clear H; intro a9 cp9 w2 O
 obtain ⟨q, cur, rfl, hn9, hcm, hcl, htk, H⟩ := O.blk
 obtain ⟨junk, hj⟩ := take_split (htk.trans (List.nil_append _))
 subst hj; clear htk
 refine asg (v := .slice _ _ _) rfl rfl ?_
 refine nl ?_
 refine then_n ?_
 refine sq ?_
 refine rg ?_
 refine mv (v := .slice _ _ _) rfl rfl ?_
 refine sllhN (0) (4) (cp9) rfl rfl rfl Tryz.underlying30 sz5_1 (by omega) (by omega) rfl ?_
 refine asg (v := .slice _ _ _) rfl rfl ?_
 refine nl ?_
 refine then_n ?_
 refine sq ?_
 refine rg ?_
 refine mv (v := .slice _ _ _) rfl rfl ?_
 refine cl ca85 (c_rev _ _ _ _ _ _ _ _ H.look (by (try simp only [rvN_len]); omega) (by omega)) rfl ?_
 rintro _ w3 ⟨rfl, F, hnew⟩
 replace H := H.put F hnew; clear F hnew
 refine nl ?_
 refine then_n ?_
 refine sq ?_
 refine rg ?_
 refine mv (v := .slice _ _ _) rfl rfl ?_
 refine sllhN (4) (2) (cp9 - 4) rfl rfl rfl Tryz.underlying30 sz5_1 (by omega) (by omega) rfl ?_
 refine asg (v := .slice _ _ _) rfl rfl ?_
 refine nl ?_
 refine then_n ?_
 refine sq ?_
 refine rg ?_
 refine mv (v := .slice _ _ _) rfl rfl ?_
 refine cl ca85 (c_rev _ _ _ _ _ _ _ _ H.look (by (try simp only [rvN_len]); omega) (by omega)) rfl ?_
 rintro _ w4 ⟨rfl, F, hnew⟩
 replace H := H.put F hnew; clear F hnew
 refine nl ?_
 refine then_n ?_
 refine sq ?_
 refine rg ?_
 refine mv (v := .slice _ _ _) rfl rfl ?_
 refine sllhN (6) (2) (cp9 - 6) rfl rfl rfl Tryz.underlying30 sz5_1 (by omega) (by omega) rfl ?_
 refine asg (v := .slice _ _ _) rfl rfl ?_
 refine nl ?_
 refine then_n ?_
 refine sq ?_
 refine rg ?_
 refine mv (v := .slice _ _ _) rfl rfl ?_
 refine cl ca85 (c_rev _ _ _ _ _ _ _ _ H.look (by (try simp only [rvN_len]); omega) (by omega)) rfl ?_
 rintro _ w5 ⟨rfl, F, hnew⟩
 replace H := H.put F hnew; clear F hnew
 refine nl ?_
 refine then_n ?_
 refine sq ?_
 refine rg ?_
 refine mv (v := .slice _ _ _) rfl rfl ?_
 refine asg (v := .slice _ _ _) rfl rfl ?_
 refine nl ?_
 refine then_n ?_
 refine rt ?_
 refine fin_r ?_
 have e := H.look (b := q)
 have e2 : rvN (rvN (rvN b 0 4 2) 4 2 1) 6 2 1 = permB b := rv_perm (by omega)
 rw [e2] at e
 exact ⟨q, cp9, junk, rfl, H.ge, e, H.fr⟩

end Go.Proofs.YthcaejaaalkglaaGreatDoor.X
