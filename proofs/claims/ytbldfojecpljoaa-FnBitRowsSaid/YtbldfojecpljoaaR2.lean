/- Walks of functions, printed by a program of this claim. -/
import Derived.Test.YtbldfojecpljoaaB4
import Derived.Test.YtbldfojecpljoaaR1
import Derived.Test.YtbldfojecpljoaaMbrPure
namespace Go.Proofs.Ytbldfojecpljoaa.X
set_option linter.unusedVariables false
set_option linter.unusedSimpArgs false
open Go Go.RowKit

namespace R2
theorem ag79_2 : aggB Try.prog 79 2 = true := by kernel_rfl
theorem bo46 : buildOK Try.prog 46 = true := by kernel_rfl
theorem ca22 : callable Try.prog 22 = true := by kernel_rfl
theorem ca40 : callable Try.prog 40 = true := by kernel_rfl
theorem ca42 : callable Try.prog 42 = true := by kernel_rfl
theorem fo79_0 : fieldOff Try.prog 79 0 = some 0 := by kernel_rfl
theorem fo79_1 : fieldOff Try.prog 79 1 = some 1 := by kernel_rfl
theorem pl46_0 : placeOf Try.prog 46 0 = some (0, 1) := by kernel_rfl
theorem pl46_1 : placeOf Try.prog 46 1 = some (1, 1) := by kernel_rfl
theorem ri46 : rowInfo Try.prog 46 = some ([.int .i64 0, .int .i64 0], 16) := by kernel_rfl
theorem sc3 : scalarB Try.prog 3 = true := by kernel_rfl
theorem sz3_1 : sizeB Try.prog 3 1 = true := by kernel_rfl
theorem sz46_2 : sizeB Try.prog 46 2 = true := by kernel_rfl
theorem sz79_2 : sizeB Try.prog 79 2 = true := by kernel_rfl
theorem ze46 : zeroL Try.prog 46 = some [.int .i64 0, .int .i64 0] := by kernel_rfl
theorem ze79 : zeroL Try.prog 79 = some [.int .i64 0, .int .i64 0] := by kernel_rfl

end R2
open R2

set_option maxRecDepth 100000 in
theorem c_implRows (w : World) (bs : List UInt8) (hl : bs.length ≤ 100) : Calls Try.prog 23 #[.string (str bs)] w (Ret fun v w' => ∃ A cap, v = .slice A (rSt bs (8 * bs.length)).length cap ∧ (∀ j u, (rowsV (rSt bs (8 * bs.length)))[j]? = some u → ∃ ad, A = some ad ∧ w'.cell? (ad.add j) = some u) ∧ Fr [] w w') := by
  refine enter (fun ρ => ρ 2) Try.func23 rfl rfl rfl (res1 rfl) ?_
  have H := SH.nil w
  have hrl := r_len bs (8 * bs.length)
  refine sq ?_
  refine rg ?_
  refine asg (v := .slice _ _ _) rfl rfl ?_
  refine nl ?_
  refine then_n ?_
  refine sq ?_
  refine sq ?_
  refine rg ?_
  refine mv (v := .string _) rfl rfl ?_
  refine cvSB H rfl Try.underlying9 Try.underlying23 Try.underlying5 rfl ?_
  clear H; intro b1 cp1 w1 hb1 hcp1 H _
  refine cl ca40 (c_fromBytes _ _ _ _ _ (by first | exact RB.pre H | exact RB.all H | assumption) (by omega)) rfl ?_
  rintro _ w2 ⟨bm2, bb2, rfl, hbm, hbb, hne, h4, h5, F⟩
  replace H := H.new2 F hbm hbb hne h4 h5; clear F h4 h5
  refine cl ca42 (c_freeList _ _ _ _ _ rfl H.look H.look (by omega)) rfl ?_
  rintro _ w3 ⟨A, cap, rfl, hcells, F⟩
  replace H := H.keep F; clear F
  refine lnS rfl Try.underlying76 rfl ?_
  refine mv (v := .int .i64 _) rfl rfl ?_
  refine nl ?_
  refine then_n ?_
  refine bk ?_
  have F0 := H.fr; clear H
  refine lpM (α := Nat × Option Addr × Nat) [2, 4, 10, 11, 12, 13, 14, 15, 16, 17, 18, 19, 20, 21, 22] (fun (i, A2, cap2) => [(2, .slice A2 i cap2), (10, .int .i64 (i : Int))]) (fun (i, A2, cap2) w' => i ≤ (rSt bs (8 * bs.length)).length ∧ OR 46 2 w3 [] w' [] A2 i cap2 (rowsV ((rSt bs (8 * bs.length)).take i))) (fun (i, A2, cap2) => (rSt bs (8 * bs.length)).length - i) (0, none, 0) ?_ (fC (by first | rfl | exact congrArg (Value.int _) (by first | omega | assumption | (symm; assumption) | (simp; done) | (simp; omega)) | exact congrArg (fun n => Value.slice _ n _) (by first | simp; done | simp; omega)) (fC (by first | rfl | exact congrArg (Value.int _) (by first | omega | assumption | (symm; assumption) | (simp; done) | (simp; omega)) | exact congrArg (fun n => Value.slice _ n _) (by first | simp; done | simp; omega)) (fN _))) ?_   -- loop 1
  · exact ⟨by omega, OR.nil (SH.nil _)⟩
  · rintro ⟨i, A2, cap2⟩ ρx w4 ⟨hi, O⟩
    have H := SH.nil w4
    refine sq ?_
    refine rg ?_
    refine lss rfl rfl rfl ?_
    refine nl ?_
    refine then_n ?_
    refine sq ?_
    first | refine cd rfl (fun hc1 => ?_) (fun hc1 => ?_) | refine cn rfl (fun hc1 => ?_) (fun hc1 => ?_)   -- test 1
    · obtain ⟨r, hr⟩ : ∃ r, (rSt bs (8 * bs.length))[i]? = some r := ⟨_, List.getElem?_eq_getElem (by omega)⟩
      obtain ⟨ad, rfl, hq0, hq1⟩ := row_at hcells hr
      have hlw := row_lw (O.sh.fr.cell hq0 (by simp)) (O.sh.fr.cell hq1 (by simp))
      refine sk ?_
      refine then_n ?_
      refine sq ?_
      refine bk ?_
      refine sq ?_
      refine rg ?_
      first | refine ia rfl rfl Try.underlying76 sz79_2 (by omega) rfl ?_ | refine iB rfl rfl Try.underlying76 sz79_2 (by omega) rfl ?_
      first | refine la H rfl ag79_2 rfl rfl rfl ?_ | refine lw rfl ag79_2 rfl (by assumption) rfl ?_
      refine al H ze79 rfl ?_
      clear H; intro b3 w5 hb3 H _
      refine sa H rfl rfl ag79_2 rfl rfl (by decide) (by omega) rfl ?_
      clear H; intro w6 H _
      refine nl ?_
      refine then_n ?_
      refine rg ?_
      refine mv (v := .slice _ _ _) rfl rfl ?_
      refine fa rfl fo79_0 rfl ?_
      first | refine ld H rfl sc3 rfl rfl ?_ | refine lc rfl (by first | assumption | exact H.fr.cell (by assumption) (by simp)) sc3 rfl ?_ | refine ld H rfl sc3 (by assumption) rfl ?_
      refine fa rfl fo79_1 rfl ?_
      first | refine ld H rfl sc3 rfl rfl ?_ | refine lc rfl (by first | assumption | exact H.fr.cell (by assumption) (by simp)) sc3 rfl ?_ | refine ld H rfl sc3 (by assumption) rfl ?_
      refine bu (out := ?o1) ze46 bo46 ?f1 rfl ?_
      case f1 =>
        refine FL.one (v := .int .i64 _) rfl pl46_0 rfl (by first | decide | simp) ?_
        refine FL.one (v := .int .i64 _) rfl pl46_1 rfl (by first | decide | simp) ?_
        exact FL.nil
      refine bsl (sz := 2) (out := ?o2) H Try.underlying44 ze46 sz46_2 (by decide) ?f2 rfl ?_
      case f2 =>
        refine FS.agg (vs := _) rfl rfl (by first | decide | simp) ?_
        exact FS.nil
      clear H; intro b4 w7 hb4 H F
      replace O := O.keep H.fr
      refine apO (zs := [.int .i64 0, .int .i64 0]) [.int .i64 (r.1 : Int), .int .i64 (r.2 : Int)] O rfl rfl Try.underlying44 ri46 rfl (cells_look H.look) (by simp [Value.oneCell']) (by simp) (by omega) (by unfold maxLen; omega) rfl ?_
      clear O H; intro A9 cp9 w8 O
      have H := O.sh
      refine asg (v := .slice _ _ _) rfl rfl ?_
      refine nl ?_
      refine in_n ?_
      refine then_n ?_
      refine rg ?_
      refine add rfl rfl (by first | exact w_i64 (by omega) | exact w_i64 (rng_i64 _) | rfl) rfl ?_
      refine mv (v := .int .i64 _) rfl rfl ?_
      refine nl ?_
      refine loop_n ?_
      exact ⟨(i + 1, A9, cp9), (by (try dsimp only); omega), ⟨by omega, by rw [take_succ_get hr, rowsV_snoc]; exact O⟩, (fC (by first | rfl | exact congrArg (Value.int _) (by first | omega | assumption | (symm; assumption) | (simp; done) | (simp; omega)) | exact congrArg (fun n => Value.slice _ n _) (by first | simp; done | simp; omega)) (fC (by first | rfl | exact congrArg (Value.int _) (by first | omega | assumption | (symm; assumption) | (simp; done) | (simp; omega)) | exact congrArg (fun n => Value.slice _ n _) (by first | simp; done | simp; omega)) (fN _))), (by repeat (first | exact Agree.setL rfl Agree.mask | exact Agree.self _ _ | refine Agree.upd rfl ?_ | refine Agree.setL rfl ?_ | refine Agree.mask2 rfl ?_))⟩
    · refine ex ?_
      refine then_e ?_
      refine loop_e ?_
      refine in_hit rfl ?_
      refine then_n ?_
      refine sq ?_
      refine rg ?_
      refine mv (v := .slice _ _ _) rfl rfl ?_
      refine asg (v := .slice _ _ _) rfl rfl ?_
      refine nl ?_
      refine then_n ?_
      refine rt ?_
      refine fin_r ?_
      obtain rfl : i = (rSt bs (8 * bs.length)).length := by omega
      rw [List.take_length] at O
      exact ⟨_, _, rfl, O.cells, F0.trans O.sh.fr⟩

set_option maxRecDepth 100000 in
theorem c_specRows (w : World) (bs : List UInt8) (hl : bs.length ≤ 100) : Calls Try.prog 24 #[.string (str bs)] w (Ret fun v w' => ∃ A cap, v = .slice A (rSt bs (8 * bs.length)).length cap ∧ (∀ j u, (rowsV (rSt bs (8 * bs.length)))[j]? = some u → ∃ ad, A = some ad ∧ w'.cell? (ad.add j) = some u) ∧ Fr [] w w') := by
  refine enter (fun ρ => ρ 2) Try.func24 rfl rfl rfl (res1 rfl) ?_
  have H := SH.nil w
  have hsz := size_str bs
  refine sq ?_
  refine rg ?_
  refine asg (v := .slice _ _ _) rfl rfl ?_
  refine nl ?_
  refine then_n ?_
  refine sq ?_
  refine rg ?_
  refine asg (v := .slice _ _ _) rfl rfl ?_
  refine nl ?_
  refine then_n ?_
  refine sq ?_
  refine sq ?_
  refine rg ?_
  refine asg (v := .int .i64 _) rfl rfl ?_
  refine nl ?_
  refine then_n ?_
  refine bk ?_
  refine lpM (α := Nat × Option Addr × Nat × List Rw) [3, 4, 5, 6, 7, 8, 9, 10, 11, 12, 13, 14, 15, 16, 17, 18, 19, 20, 21, 22, 23, 24, 25, 26, 27, 28, 29, 30, 31, 32, 33, 34, 35, 36, 37, 38, 39, 40, 41, 42, 43, 44, 45, 46, 47, 48] (fun (k, A, cap, rs) => [(3, .slice A rs.length cap), (4, .int .i64 (k : Int))]) (fun (k, A, cap, rs) w' => k ≤ 8 * bs.length ∧ rSt bs k = rs ∧ OR 46 2 w [] w' [] A rs.length cap (rowsV rs)) (fun (k, A, cap, rs) => 8 * bs.length - k) (0, none, 0, []) ?_ (fC (by first | rfl | exact congrArg (Value.int _) (by first | omega | assumption | (symm; assumption) | (simp; done) | (simp; omega)) | exact congrArg (fun n => Value.slice _ n _) (by first | simp; done | simp; omega)) (fC (by first | rfl | exact congrArg (Value.int _) (by first | omega | assumption | (symm; assumption) | (simp; done) | (simp; omega)) | exact congrArg (fun n => Value.slice _ n _) (by first | simp; done | simp; omega)) (fN _))) ?_   -- loop 1
  · exact ⟨by omega, rfl, OR.nil H⟩
  · rintro ⟨k, A, cap, rs⟩ ρx w1 ⟨hk, hrs, O⟩
    have H := SH.nil w1
    have hrl := r_len bs k
    rw [hrs] at hrl
    refine sq ?_
    refine sq ?_
    refine rg ?_
    refine mv (v := .int .i64 _) rfl rfl ?_
    refine mv (v := .string _) rfl rfl ?_
    refine lnT rfl Try.underlying9 rfl ?_
    refine mul rfl rfl (by first | exact w_i64 (by omega) | exact w_i64 (rng_i64 _) | rfl) rfl ?_
    refine lss rfl rfl rfl ?_
    refine nl ?_
    refine then_n ?_
    first | refine cd rfl (fun hc1 => ?_) (fun hc1 => ?_) | refine cn rfl (fun hc1 => ?_) (fun hc1 => ?_)   -- test 1
    · refine sk ?_
      refine then_n ?_
      refine sq ?_
      refine bk ?_
      refine sq ?_
      refine sq ?_
      refine rg ?_
      refine mv (v := .string _) rfl rfl ?_
      refine mv (v := .int .i64 _) rfl rfl ?_
      refine cl ca22 (c_bitAt _ _ _ (by omega) (by omega)) rfl ?_
      rintro _ w2 ⟨rfl, F⟩
      replace H := H.keep F; clear F
      refine nl ?_
      refine then_n ?_
      first | refine cd rfl (fun hc2 => ?_) (fun hc2 => ?_) | refine cn rfl (fun hc2 => ?_) (fun hc2 => ?_)   -- test 2
      · refine ex ?_
        refine then_e ?_
        refine in_hit rfl ?_
        refine then_n ?_
        refine rg ?_
        refine mv (v := .int .i64 _) rfl rfl ?_
        refine add rfl rfl (by first | exact w_i64 (by omega) | exact w_i64 (rng_i64 _) | rfl) rfl ?_
        refine asg (v := .int .i64 _) rfl rfl ?_
        refine nl ?_
        refine loop_n ?_
        exact ⟨(k + 1, A, cap, rs), (by (try dsimp only); omega), ⟨by omega, r_set hrs hc2, O.keep H.fr⟩, (fC (by first | rfl | exact congrArg (Value.int _) (by first | omega | assumption | (symm; assumption) | (simp; done) | (simp; omega)) | exact congrArg (fun n => Value.slice _ n _) (by first | simp; done | simp; omega)) (fC (by first | rfl | exact congrArg (Value.int _) (by first | omega | assumption | (symm; assumption) | (simp; done) | (simp; omega)) | exact congrArg (fun n => Value.slice _ n _) (by first | simp; done | simp; omega)) (fN _))), (by repeat (first | exact Agree.setL rfl Agree.mask | exact Agree.self _ _ | refine Agree.upd rfl ?_ | refine Agree.setL rfl ?_ | refine Agree.mask2 rfl ?_))⟩
      · have hc2n : ¬ bitAt bs k = true := by simp [hc2]
        refine sk ?_
        refine then_n ?_
        refine sq ?_
        refine rg ?_
        refine mv (v := .slice _ _ _) rfl rfl ?_
        refine lnS rfl Try.underlying44 rfl ?_
        refine sub rfl rfl (by first | exact w_i64 (by omega) | exact w_i64 (rng_i64 _) | rfl) rfl ?_
        refine asg (v := .int .i64 _) rfl rfl ?_
        refine nl ?_
        refine then_n ?_
        refine sq ?_
        refine dr (by kernel_rfl) ?_   -- region 7
        have H := H.drew
        refine holdH H [] ?_
        refine tk (i := 0) rfl (by kernel_rfl) rfl H (fun w' H => r_mv (v := .int .i64 _) rfl) ?_
        refine tk (i := 1) rfl (by kernel_rfl) rfl H (fun w' H => r_geq rfl rfl) ?_
        refine tk (i := 2) rfl (by kernel_rfl) rfl H (fun w' H => r_mv (v := .bool _) rfl) ?_
        first | refine spad (t := 21) rfl (fun hg1 => ?_) (fun hg1 => ?_) | refine spa (t := 21) rfl (fun hg1 => ?_) (fun hg1 => ?_)   -- guard 1
        · obtain ⟨r, hr⟩ : ∃ r, rs[rs.length - 1]? = some r := ⟨_, List.getElem?_eq_getElem (by omega)⟩
          obtain ⟨ad, rfl, hq0, hq1⟩ := row_at O.cells hr
          have hrb := r_bound hrs hr
          have e1 : ((rs.length : Int) - 1).toNat = rs.length - 1 := by omega
          rw [← e1] at hq0 hq1
          refine tkg (i := 3) rfl (by kernel_rfl) rfl H rfl (fun w' H => r_mv (v := .slice _ _ _) rfl) ?_
          refine tkg (i := 4) rfl (by kernel_rfl) rfl H rfl (fun w' H => r_mv (v := .int .i64 _) rfl) ?_
          first | refine tkg (i := 5) rfl (by kernel_rfl) rfl H rfl (fun w' H => r_ia rfl rfl Try.underlying44 sz46_2 (by omega)) ?_ | refine tkg (i := 5) rfl (by kernel_rfl) rfl H rfl (fun w' H => r_iB rfl rfl Try.underlying44 sz46_2 (by omega)) ?_
          first | refine tkg (i := 6) rfl (by kernel_rfl) rfl H rfl (fun w' H => r_iy rfl rfl Try.underlying46 sz3_1 (by omega)) ?_ | refine tkg (i := 6) rfl (by kernel_rfl) rfl H rfl (fun w' H => r_iyB rfl rfl Try.underlying46 sz3_1 (by omega)) ?_
          first | refine tkg (i := 7) rfl (by kernel_rfl) rfl H rfl (fun w' H => r_ld H rfl sc3 rfl) ?_ | refine tkg (i := 7) rfl (by kernel_rfl) rfl H rfl (fun w' H => r_lc rfl (by first | assumption | exact H.fr.cell (by assumption) (by simp)) sc3) ?_ | refine tkg (i := 7) rfl (by kernel_rfl) rfl H rfl (fun w' H => r_ld H rfl sc3 (by assumption)) ?_
          refine tkg (i := 8) rfl (by kernel_rfl) rfl H rfl (fun w' H => r_mv (v := .slice _ _ _) rfl) ?_
          refine tkg (i := 9) rfl (by kernel_rfl) rfl H rfl (fun w' H => r_mv (v := .int .i64 _) rfl) ?_
          first | refine tkg (i := 10) rfl (by kernel_rfl) rfl H rfl (fun w' H => r_ia rfl rfl Try.underlying44 sz46_2 (by omega)) ?_ | refine tkg (i := 10) rfl (by kernel_rfl) rfl H rfl (fun w' H => r_iB rfl rfl Try.underlying44 sz46_2 (by omega)) ?_
          first | refine tkg (i := 11) rfl (by kernel_rfl) rfl H rfl (fun w' H => r_iy rfl rfl Try.underlying46 sz3_1 (by omega)) ?_ | refine tkg (i := 11) rfl (by kernel_rfl) rfl H rfl (fun w' H => r_iyB rfl rfl Try.underlying46 sz3_1 (by omega)) ?_
          first | refine tkg (i := 12) rfl (by kernel_rfl) rfl H rfl (fun w' H => r_ld H rfl sc3 rfl) ?_ | refine tkg (i := 12) rfl (by kernel_rfl) rfl H rfl (fun w' H => r_lc rfl (by first | assumption | exact H.fr.cell (by assumption) (by simp)) sc3) ?_ | refine tkg (i := 12) rfl (by kernel_rfl) rfl H rfl (fun w' H => r_ld H rfl sc3 (by assumption)) ?_
          refine tkg (i := 13) rfl (by kernel_rfl) rfl H rfl (fun w' H => r_add rfl rfl (by first | exact w_i64 (by omega) | exact w_i64 (rng_i64 _) | rfl)) ?_
          refine tkg (i := 14) rfl (by kernel_rfl) rfl H rfl (fun w' H => r_mv (v := .int .i64 _) rfl) ?_
          refine tkg (i := 15) rfl (by kernel_rfl) rfl H rfl (fun w' H => r_eql rfl rfl) ?_
          refine tk (i := 16) rfl (by kernel_rfl) rfl H (fun w' H => r_pkT (v := .bool _) rfl rfl) ?_
          refine da (by kernel_rfl) ?_
          refine then_n ?_
          first | refine cd rfl (fun hc3 => ?_) (fun hc3 => ?_) | refine cn rfl (fun hc3 => ?_) (fun hc3 => ?_)   -- test 3
          · replace O := O.keep H.fr
            obtain ⟨b0, cur, rfl, hn0, hcm, hcl, htk, Ho⟩ := O.blk
            clear H; have H := Ho
            have hv1 := own_get htk hr
            rw [← e1] at hv1
            have hv2 : cur[0 + ((rs.length : Int) - 1).toNat * 2 + (1 : Int).toNat * 1]? = some (.int .i64 (r.2 : Int)) := by
              rw [← hv1]; congr 1; omega
            refine dr (by kernel_rfl) ?_   -- region 8
            have H := H.drew
            refine holdH H [8] ?_
            refine tk (i := 0) rfl (by kernel_rfl) rfl H (fun w' H => r_mv (v := .slice _ _ _) rfl) ?_
            refine tk (i := 1) rfl (by kernel_rfl) rfl H (fun w' H => r_mv (v := .int .i64 _) rfl) ?_
            first | refine tk (i := 2) rfl (by kernel_rfl) rfl H (fun w' H => r_ia rfl rfl Try.underlying44 sz46_2 (by omega)) ?_ | refine tk (i := 2) rfl (by kernel_rfl) rfl H (fun w' H => r_iB rfl rfl Try.underlying44 sz46_2 (by omega)) ?_
            first | refine tk (i := 3) rfl (by kernel_rfl) rfl H (fun w' H => r_iy rfl rfl Try.underlying46 sz3_1 (by omega)) ?_ | refine tk (i := 3) rfl (by kernel_rfl) rfl H (fun w' H => r_iyB rfl rfl Try.underlying46 sz3_1 (by omega)) ?_
            first | refine tk (i := 4) rfl (by kernel_rfl) rfl H (fun w' H => r_ld H rfl sc3 rfl) ?_ | refine tk (i := 4) rfl (by kernel_rfl) rfl H (fun w' H => r_lc rfl (by first | assumption | exact H.fr.cell (by assumption) (by simp)) sc3) ?_ | refine tk (i := 4) rfl (by kernel_rfl) rfl H (fun w' H => r_ld H rfl sc3 (by assumption)) ?_
            refine tk (i := 5) rfl (by kernel_rfl) rfl H (fun w' H => r_add rfl rfl (by first | exact w_i64 (by omega) | exact w_i64 (rng_i64 _) | rfl)) ?_
            refine fk (i := 6) (by kernel_rfl) rfl rfl rfl ?_
            first | refine ia rfl rfl Try.underlying44 sz46_2 (by omega) rfl ?_ | refine iB rfl rfl Try.underlying44 sz46_2 (by omega) rfl ?_
            refine nl ?_
            refine then_n ?_
            refine ⟨H, ?_⟩
            first | refine tk (i := 7) rfl (by kernel_rfl) rfl H (fun w' H => r_iy rfl rfl Try.underlying46 sz3_1 (by omega)) ?_ | refine tk (i := 7) rfl (by kernel_rfl) rfl H (fun w' H => r_iyB rfl rfl Try.underlying46 sz3_1 (by omega)) ?_
            refine fb (i := 8) (by kernel_rfl) rfl rfl rfl ?_
            refine st (v := .int .i64 _) H rfl rfl sc3 rfl (by first | decide | (simp only [List.length_set, List.length_cons, List.length_nil, List.length_replicate, List.length_append, Bs_length]; omega) | omega) (by omega) ?_
            clear H; intro w3 H _
            refine nl ?_
            refine then_n ?_
            refine dn (by kernel_rfl) ?_
            refine in_n ?_
            refine then_n ?_
            refine rg ?_
            refine mv (v := .int .i64 _) rfl rfl ?_
            refine add rfl rfl (by first | exact w_i64 (by omega) | exact w_i64 (rng_i64 _) | rfl) rfl ?_
            refine asg (v := .int .i64 _) rfl rfl ?_
            refine nl ?_
            refine loop_n ?_
            exact ⟨(k + 1, some ⟨b0, 0, none⟩, cap, rs.dropLast ++ [(r.1, r.2 + 1)]), (by (try dsimp only); omega), ⟨by omega, r_grow hrs hc2n hr (by omega), OR_upd H htk hcl hn0 hcm hr (by omega) (by omega)⟩, (fC (by first | rfl | exact congrArg (Value.int _) (by first | omega | assumption | (symm; assumption) | (simp; done) | (simp; omega)) | exact congrArg (fun n => Value.slice _ n _) (by first | simp; done | simp; omega)) (fC (by first | rfl | exact congrArg (Value.int _) (by first | omega | assumption | (symm; assumption) | (simp; done) | (simp; omega)) | exact congrArg (fun n => Value.slice _ n _) (by first | simp; done | simp; omega)) (fN _))), (by repeat (first | exact Agree.setL rfl Agree.mask | exact Agree.self _ _ | refine Agree.upd rfl ?_ | refine Agree.setL rfl ?_ | refine Agree.mask2 rfl ?_))⟩
          · refine rg ?_
            refine mv (v := .slice _ _ _) rfl rfl ?_
            refine mv (v := .int .i64 _) rfl rfl ?_
            refine bu (out := ?o1) ze46 bo46 ?f1 rfl ?_
            case f1 =>
              refine FL.one (v := .int .i64 _) rfl pl46_0 rfl (by first | decide | simp) ?_
              refine FL.one (v := .int .i64 _) rfl pl46_1 rfl (by first | decide | simp) ?_
              exact FL.nil
            refine bsl (sz := 2) (out := ?o2) H Try.underlying44 ze46 sz46_2 (by decide) ?f2 rfl ?_
            case f2 =>
              refine FS.agg (vs := _) rfl rfl (by first | decide | simp) ?_
              exact FS.nil
            clear H; intro b1 w4 hb1 H F
            replace O := O.keep H.fr
            refine apO (zs := [.int .i64 0, .int .i64 0]) [.int .i64 (k : Int), .int .i64 1] O rfl rfl Try.underlying44 ri46 rfl (cells_look H.look) (by simp [Value.oneCell']) (by simp) (by omega) (by unfold maxLen; omega) rfl ?_
            clear O H; intro A9 cp9 w5 O
            have H := O.sh
            refine asg (v := .slice _ _ _) rfl rfl ?_
            refine nl ?_
            refine in_n ?_
            refine then_n ?_
            refine rg ?_
            refine mv (v := .int .i64 _) rfl rfl ?_
            refine add rfl rfl (by first | exact w_i64 (by omega) | exact w_i64 (rng_i64 _) | rfl) rfl ?_
            refine asg (v := .int .i64 _) rfl rfl ?_
            refine nl ?_
            refine loop_n ?_
            exact ⟨(k + 1, A9, cp9, rs ++ [(k, 1)]), (by (try dsimp only); omega), ⟨by omega, r_new hrs hc2n (fun r' hr' => by rw [hr] at hr'; obtain rfl := Option.some.inj hr'; omega), by rw [List.length_append, rowsV_snoc]; exact O⟩, (fC (by first | rfl | exact congrArg (Value.int _) (by first | omega | assumption | (symm; assumption) | (simp; done) | (simp; omega)) | exact congrArg (fun n => Value.slice _ n _) (by first | simp; done | simp; omega)) (fC (by first | rfl | exact congrArg (Value.int _) (by first | omega | assumption | (symm; assumption) | (simp; done) | (simp; omega)) | exact congrArg (fun n => Value.slice _ n _) (by first | simp; done | simp; omega)) (fN _))), (by repeat (first | exact Agree.setL rfl Agree.mask | exact Agree.self _ _ | refine Agree.upd rfl ?_ | refine Agree.setL rfl ?_ | refine Agree.mask2 rfl ?_))⟩
        · refine tkn (i := 3) rfl (by kernel_rfl) rfl H rfl ?_
          refine tkn (i := 4) rfl (by kernel_rfl) rfl H rfl ?_
          refine tkn (i := 5) rfl (by kernel_rfl) rfl H rfl ?_
          refine tkn (i := 6) rfl (by kernel_rfl) rfl H rfl ?_
          refine tkn (i := 7) rfl (by kernel_rfl) rfl H rfl ?_
          refine tkn (i := 8) rfl (by kernel_rfl) rfl H rfl ?_
          refine tkn (i := 9) rfl (by kernel_rfl) rfl H rfl ?_
          refine tkn (i := 10) rfl (by kernel_rfl) rfl H rfl ?_
          refine tkn (i := 11) rfl (by kernel_rfl) rfl H rfl ?_
          refine tkn (i := 12) rfl (by kernel_rfl) rfl H rfl ?_
          refine tkn (i := 13) rfl (by kernel_rfl) rfl H rfl ?_
          refine tkn (i := 14) rfl (by kernel_rfl) rfl H rfl ?_
          refine tkn (i := 15) rfl (by kernel_rfl) rfl H rfl ?_
          refine tk (i := 16) rfl (by kernel_rfl) rfl H (fun w' H => r_pkF (v := .bool _) rfl rfl) ?_
          refine da (by kernel_rfl) ?_
          refine then_n ?_
          refine cbF rfl rfl ?_
          refine rg ?_
          refine mv (v := .slice _ _ _) rfl rfl ?_
          refine mv (v := .int .i64 _) rfl rfl ?_
          refine bu (out := ?o3) ze46 bo46 ?f3 rfl ?_
          case f3 =>
            refine FL.one (v := .int .i64 _) rfl pl46_0 rfl (by first | decide | simp) ?_
            refine FL.one (v := .int .i64 _) rfl pl46_1 rfl (by first | decide | simp) ?_
            exact FL.nil
          refine bsl (sz := 2) (out := ?o4) H Try.underlying44 ze46 sz46_2 (by decide) ?f4 rfl ?_
          case f4 =>
            refine FS.agg (vs := _) rfl rfl (by first | decide | simp) ?_
            exact FS.nil
          clear H; intro b2 w6 hb2 H F
          replace O := O.keep H.fr
          refine apO (zs := [.int .i64 0, .int .i64 0]) [.int .i64 (k : Int), .int .i64 1] O rfl rfl Try.underlying44 ri46 rfl (cells_look H.look) (by simp [Value.oneCell']) (by simp) (by omega) (by unfold maxLen; omega) rfl ?_
          clear O H; intro A9 cp9 w7 O
          have H := O.sh
          refine asg (v := .slice _ _ _) rfl rfl ?_
          refine nl ?_
          refine in_n ?_
          refine then_n ?_
          refine rg ?_
          refine mv (v := .int .i64 _) rfl rfl ?_
          refine add rfl rfl (by first | exact w_i64 (by omega) | exact w_i64 (rng_i64 _) | rfl) rfl ?_
          refine asg (v := .int .i64 _) rfl rfl ?_
          refine nl ?_
          refine loop_n ?_
          exact ⟨(k + 1, A9, cp9, rs ++ [(k, 1)]), (by (try dsimp only); omega), ⟨by omega, r_new hrs hc2n (fun r' hr' => by have := (List.getElem?_eq_some_iff.1 hr').1; omega), by rw [List.length_append, rowsV_snoc]; exact O⟩, (fC (by first | rfl | exact congrArg (Value.int _) (by first | omega | assumption | (symm; assumption) | (simp; done) | (simp; omega)) | exact congrArg (fun n => Value.slice _ n _) (by first | simp; done | simp; omega)) (fC (by first | rfl | exact congrArg (Value.int _) (by first | omega | assumption | (symm; assumption) | (simp; done) | (simp; omega)) | exact congrArg (fun n => Value.slice _ n _) (by first | simp; done | simp; omega)) (fN _))), (by repeat (first | exact Agree.setL rfl Agree.mask | exact Agree.self _ _ | refine Agree.upd rfl ?_ | refine Agree.setL rfl ?_ | refine Agree.mask2 rfl ?_))⟩
    · refine ex ?_
      refine then_e ?_
      refine loop_e ?_
      refine in_hit rfl ?_
      refine then_n ?_
      refine sq ?_
      refine rg ?_
      refine mv (v := .slice _ _ _) rfl rfl ?_
      refine asg (v := .slice _ _ _) rfl rfl ?_
      refine nl ?_
      refine then_n ?_
      refine rt ?_
      refine fin_r ?_
      obtain rfl : k = 8 * bs.length := by omega
      rw [hrs]
      exact ⟨_, _, rfl, O.cells, O.sh.fr⟩

end Go.Proofs.Ytbldfojecpljoaa.X
