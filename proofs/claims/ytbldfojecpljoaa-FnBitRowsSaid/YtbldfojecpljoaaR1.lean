/- Walks of functions, printed by a program of this claim. -/
import Derived.Test.YtbldfojecpljoaaProg
import Derived.Test.YtbldfojecpljoaaRuns
import Derived.Test.YtbldfojecpljoaaRowsPure
namespace Go.Proofs.Ytbldfojecpljoaa.X
set_option linter.unusedVariables false
set_option linter.unusedSimpArgs false
open Go Go.RowKit

namespace R1
theorem bo79 : buildOK Try.prog 79 = true := by kernel_rfl
theorem fo91_0 : fieldOff Try.prog 91 0 = some 0 := by kernel_rfl
theorem pl79_0 : placeOf Try.prog 79 0 = some (0, 1) := by kernel_rfl
theorem pl79_1 : placeOf Try.prog 79 1 = some (1, 1) := by kernel_rfl
theorem ri79 : rowInfo Try.prog 79 = some ([.int .i64 0, .int .i64 0], 16) := by kernel_rfl
theorem sc23 : scalarB Try.prog 23 = true := by kernel_rfl
theorem sc5 : scalarB Try.prog 5 = true := by kernel_rfl
theorem sz5_1 : sizeB Try.prog 5 1 = true := by kernel_rfl
theorem sz79_2 : sizeB Try.prog 79 2 = true := by kernel_rfl
theorem ze79 : zeroL Try.prog 79 = some [.int .i64 0, .int .i64 0] := by kernel_rfl

end R1
open R1

set_option maxRecDepth 100000 in
theorem c_freeList (w : World) (bm bb m : Nat) (bs : List UInt8) (hbl : bs.length = m) (hm : w.heap[bm]? = some (.cells [.slice (some ⟨bb, 0, none⟩) m m].toArray 91 (0, 0))) (hb : w.heap[bb]? = some (.cells (Bs bs).toArray 5 (0, 0))) (hl : m ≤ 1000) : Calls Try.prog 42 #[.pointer (some ⟨bm, 0, none⟩)] w (Ret fun v w' => ∃ A cap, v = .slice A (rSt bs (8 * m)).length cap ∧ (∀ j u, (rowsV (rSt bs (8 * m)))[j]? = some u → ∃ ad, A = some ad ∧ w'.cell? (ad.add j) = some u) ∧ Fr [] w w') := by
  refine enter (fun ρ => ρ 2) Try.func42 rfl rfl rfl (res1 rfl) ?_
  have H := SH.ro2 hm hb
  refine sq ?_
  refine rg ?_
  refine asg (v := .slice _ _ _) rfl rfl ?_
  refine nl ?_
  refine then_n ?_
  refine sq ?_
  refine rg ?_
  refine asg (v := .slice _ _ _) rfl rfl ?_
  refine nl ?_
  refine then_n ?_
  refine sq ?_
  refine rg ?_
  refine asg (v := .int .i64 _) rfl rfl ?_
  refine nl ?_
  refine then_n ?_
  refine sq ?_
  refine rg ?_
  refine asg (v := .int .i64 _) rfl rfl ?_
  refine nl ?_
  refine then_n ?_
  refine sq ?_
  refine sq ?_
  refine rg ?_
  refine mv (v := .pointer _) rfl rfl ?_
  first | refine nc rfl rfl ?_ | refine nci rfl rfl ?_
  refine fa rfl fo91_0 rfl ?_
  first | refine ld H rfl sc23 rfl rfl ?_ | refine lc rfl (by first | assumption | exact H.fr.cell (by assumption) (by simp)) sc23 rfl ?_ | refine ld H rfl sc23 (by assumption) rfl ?_
  refine lnS rfl Try.underlying23 rfl ?_
  refine mv (v := .int .i64 _) rfl rfl ?_
  refine nl ?_
  refine then_n ?_
  refine bk ?_
  refine lpM (α := Nat × Option Addr × Nat × List Rw × Option Rw) [3, 4, 5, 6, 7, 8, 9, 15, 16, 17, 18, 19, 20, 21, 22, 23, 24, 25, 26, 27, 28, 29, 30, 31, 32, 33, 34, 35, 36, 37, 38, 39, 40, 41, 42, 43, 44, 45, 46, 47, 48, 49, 50] (fun (i, A, cap, fl, cur) => [(3, .slice A fl.length cap), (4, .int .i64 (locOf cur)), (5, .int .i64 (cntOf cur)), (15, .int .i64 (i : Int))]) (fun (i, A, cap, fl, cur) w' => i ≤ m ∧ fSt bs (8 * i) = (fl, cur) ∧ OR 79 2 w [] w' [⟨bm, .cells [.slice (some ⟨bb, 0, none⟩) m m].toArray 91 (0, 0), false⟩, ⟨bb, .cells (Bs bs).toArray 5 (0, 0), false⟩] A fl.length cap (rowsV fl)) (fun (i, A, cap, fl, cur) => m - i) (0, none, 0, [], none) ?_ (fC (by first | rfl | exact congrArg (Value.int _) (by first | omega | assumption | (symm; assumption) | (simp; done) | (simp; omega)) | exact congrArg (fun n => Value.slice _ n _) (by first | simp; done | simp; omega)) (fC (by first | rfl | exact congrArg (Value.int _) (by first | omega | assumption | (symm; assumption) | (simp; done) | (simp; omega)) | exact congrArg (fun n => Value.slice _ n _) (by first | simp; done | simp; omega)) (fC (by first | rfl | exact congrArg (Value.int _) (by first | omega | assumption | (symm; assumption) | (simp; done) | (simp; omega)) | exact congrArg (fun n => Value.slice _ n _) (by first | simp; done | simp; omega)) (fC (by first | rfl | exact congrArg (Value.int _) (by first | omega | assumption | (symm; assumption) | (simp; done) | (simp; omega)) | exact congrArg (fun n => Value.slice _ n _) (by first | simp; done | simp; omega)) (fN _))))) ?_   -- loop 1
  · exact ⟨by omega, rfl, OR.nil H⟩
  · rintro ⟨i, A, cap, fl, cur⟩ ρx w1 ⟨hi, hst, O⟩
    have H := O.sh
    have hcu := cur_le hst
    refine sq ?_
    refine rg ?_
    refine lss rfl rfl rfl ?_
    refine nl ?_
    refine then_n ?_
    refine sq ?_
    first | refine cd rfl (fun hc1 => ?_) (fun hc1 => ?_) | refine cn rfl (fun hc1 => ?_) (fun hc1 => ?_)   -- test 1
    · refine sk ?_
      refine then_n ?_
      refine sq ?_
      refine bk ?_
      refine sq ?_
      refine rg ?_
      refine mv (v := .int .i64 _) rfl rfl ?_
      first | refine ia rfl rfl Try.underlying23 sz5_1 (by omega) rfl ?_ | refine iA rfl rfl Try.underlying23 sz5_1 (by omega) rfl ?_
      first | (refine ldb H rfl sc5 (by omega) rfl ?_; intro hu1) | refine ld H rfl sc5 rfl rfl ?_ | refine lc rfl (by assumption) sc5 rfl ?_
      refine asg (v := .int .i64 _) rfl rfl ?_
      refine asg (v := .int .u8 _) rfl rfl ?_
      refine nl ?_
      refine then_n ?_
      refine sq ?_
      refine rg ?_
      refine asg (v := .int .u8 _) rfl rfl ?_
      refine nl ?_
      refine then_n ?_
      refine bk ?_
      refine lpM (α := Nat × Option Addr × Nat × List Rw × Option Rw) [3, 4, 5, 8, 9, 20, 21, 22, 23, 24, 25, 26, 27, 28, 29, 30, 31, 32, 33, 34, 35, 36, 37, 38, 39, 40, 41, 42, 43, 44, 45, 46, 47, 48, 49] (fun (j, A, cap, fl, cur) => [(3, .slice A fl.length cap), (4, .int .i64 (locOf cur)), (5, .int .i64 (cntOf cur)), (8, .int .u8 (j : Int))]) (fun (j, A, cap, fl, cur) w' => j ≤ 8 ∧ fSt bs (8 * i + j) = (fl, cur) ∧ OR 79 2 w [] w' [⟨bm, .cells [.slice (some ⟨bb, 0, none⟩) m m].toArray 91 (0, 0), false⟩, ⟨bb, .cells (Bs bs).toArray 5 (0, 0), false⟩] A fl.length cap (rowsV fl)) (fun (j, A, cap, fl, cur) => 8 - j) (0, A, cap, fl, cur) ?_ (fC (by first | rfl | exact congrArg (Value.int _) (by first | omega | assumption | (symm; assumption) | (simp; done) | (simp; omega)) | exact congrArg (fun n => Value.slice _ n _) (by first | simp; done | simp; omega)) (fC (by first | rfl | exact congrArg (Value.int _) (by first | omega | assumption | (symm; assumption) | (simp; done) | (simp; omega)) | exact congrArg (fun n => Value.slice _ n _) (by first | simp; done | simp; omega)) (fC (by first | rfl | exact congrArg (Value.int _) (by first | omega | assumption | (symm; assumption) | (simp; done) | (simp; omega)) | exact congrArg (fun n => Value.slice _ n _) (by first | simp; done | simp; omega)) (fC (by first | rfl | exact congrArg (Value.int _) (by first | omega | assumption | (symm; assumption) | (simp; done) | (simp; omega)) | exact congrArg (fun n => Value.slice _ n _) (by first | simp; done | simp; omega)) (fN _))))) ?_   -- loop 2
      · exact ⟨by omega, hst, O⟩
      · rintro ⟨j, A, cap, fl, cur⟩ ρx w2 ⟨hj, hst, O⟩
        have H := O.sh
        have hcu := cur_le hst
        refine sq ?_
        refine sq ?_
        refine rg ?_
        refine mv (v := .int .u8 _) rfl rfl ?_
        refine lss rfl rfl rfl ?_
        refine nl ?_
        refine then_n ?_
        first | refine cd rfl (fun hc2 => ?_) (fun hc2 => ?_) | refine cn rfl (fun hc2 => ?_) (fun hc2 => ?_)   -- test 2
        · refine sk ?_
          refine then_n ?_
          refine sq ?_
          refine bk ?_
          refine sq ?_
          refine rg ?_
          refine mv (v := .int .u8 _) rfl rfl ?_
          refine shl (c := mask8 j) rfl rfl (by omega) (mask8_eq' j) rfl ?_
          refine asg (v := .int .u8 _) rfl rfl ?_
          refine nl ?_
          refine then_n ?_
          refine bk ?_
          refine sq ?_
          refine rg ?_
          refine mv (v := .int .u8 _) rfl rfl ?_
          refine mv (v := .int .u8 _) rfl rfl ?_
          refine band rfl rfl rfl rfl ?_
          refine mv (v := .int .u8 _) rfl rfl ?_
          refine neq rfl rfl rfl ?_
          refine asg (v := .bool _) rfl rfl ?_
          refine nl ?_
          refine then_n ?_
          first | refine cd rfl (fun hc3 => ?_) (fun hc3 => ?_) | refine cn rfl (fun hc3 => ?_) (fun hc3 => ?_)   -- test 3
          · have hnb : ¬ bitAt bs (8 * i + j) = true := by
              rw [bitAt_at (by omega), ← tb_mask _ _ (by omega)]; simpa using hc3
            refine sq ?_
            refine sq ?_
            refine rg ?_
            refine mv (v := .int .i64 _) rfl rfl ?_
            refine eql rfl rfl rfl ?_
            refine nl ?_
            refine then_n ?_
            first | refine cd rfl (fun hc4 => ?_) (fun hc4 => ?_) | refine cn rfl (fun hc4 => ?_) (fun hc4 => ?_)   -- test 4
            · obtain rfl : cur = none := loc_none hc4
              refine rg ?_
              refine mv (v := .int .i64 _) rfl rfl ?_
              refine mul rfl rfl (by first | exact w_i64 (by omega) | exact w_i64 (rng_i64 _) | rfl) rfl ?_
              refine mv (v := .int .u8 _) rfl rfl ?_
              refine cvi rfl rfl Try.underlying3 (by first | exact w_i64 (by omega) | exact w_i64 (rng_i64 _) | rfl) rfl ?_
              refine add rfl rfl (by first | exact w_i64 (by omega) | exact w_i64 (rng_i64 _) | rfl) rfl ?_
              refine asg (v := .int .i64 _) rfl rfl ?_
              refine nl ?_
              refine then_n ?_
              refine rg ?_
              refine mv (v := .int .i64 _) rfl rfl ?_
              refine add rfl rfl (by first | exact w_i64 (by omega) | exact w_i64 (rng_i64 _) | rfl) rfl ?_
              refine asg (v := .int .i64 _) rfl rfl ?_
              refine nl ?_
              refine in_n ?_
              refine in_n ?_
              refine then_n ?_
              refine rg ?_
              refine mv (v := .int .u8 _) rfl rfl ?_
              refine add rfl rfl (by first | exact w_u8 (by omega) | exact w_u8 (rng_u8 _) | exact m_u8 _) rfl ?_
              refine asg (v := .int .u8 _) rfl rfl ?_
              refine nl ?_
              refine loop_n ?_
              exact ⟨(j + 1, A, cap, fl, some (8 * i + j, 1)), (by (try dsimp only); omega), ⟨by omega, fSt_new hst hnb, O⟩, (fC (by first | rfl | exact congrArg (Value.int _) (by first | omega | assumption | (symm; assumption) | (simp; done) | (simp; omega)) | exact congrArg (fun n => Value.slice _ n _) (by first | simp; done | simp; omega)) (fC (by first | rfl | exact congrArg (Value.int _) (by first | omega | assumption | (symm; assumption) | (simp; done) | (simp; omega)) | exact congrArg (fun n => Value.slice _ n _) (by first | simp; done | simp; omega)) (fC (by first | rfl | exact congrArg (Value.int _) (by first | omega | assumption | (symm; assumption) | (simp; done) | (simp; omega)) | exact congrArg (fun n => Value.slice _ n _) (by first | simp; done | simp; omega)) (fC (by first | rfl | exact congrArg (Value.int _) (by first | omega | assumption | (symm; assumption) | (simp; done) | (simp; omega)) | exact congrArg (fun n => Value.slice _ n _) (by first | simp; done | simp; omega)) (fN _))))), (by repeat (first | exact Agree.setL rfl Agree.mask | exact Agree.self _ _ | refine Agree.upd rfl ?_ | refine Agree.setL rfl ?_ | refine Agree.mask2 rfl ?_))⟩
            · obtain ⟨r, rfl⟩ := loc_some hc4
              refine sk ?_
              refine then_n ?_
              refine rg ?_
              refine mv (v := .int .i64 _) rfl rfl ?_
              refine add rfl rfl (by first | exact w_i64 (by omega) | exact w_i64 (rng_i64 _) | rfl) rfl ?_
              refine asg (v := .int .i64 _) rfl rfl ?_
              refine nl ?_
              refine in_n ?_
              refine in_n ?_
              refine then_n ?_
              refine rg ?_
              refine mv (v := .int .u8 _) rfl rfl ?_
              refine add rfl rfl (by first | exact w_u8 (by omega) | exact w_u8 (rng_u8 _) | exact m_u8 _) rfl ?_
              refine asg (v := .int .u8 _) rfl rfl ?_
              refine nl ?_
              refine loop_n ?_
              exact ⟨(j + 1, A, cap, fl, some (r.1, r.2 + 1)), (by (try dsimp only); omega), ⟨by omega, fSt_more hst hnb, O⟩, (fC (by first | rfl | exact congrArg (Value.int _) (by first | omega | assumption | (symm; assumption) | (simp; done) | (simp; omega)) | exact congrArg (fun n => Value.slice _ n _) (by first | simp; done | simp; omega)) (fC (by first | rfl | exact congrArg (Value.int _) (by first | omega | assumption | (symm; assumption) | (simp; done) | (simp; omega)) | exact congrArg (fun n => Value.slice _ n _) (by first | simp; done | simp; omega)) (fC (by first | rfl | exact congrArg (Value.int _) (by first | omega | assumption | (symm; assumption) | (simp; done) | (simp; omega)) | exact congrArg (fun n => Value.slice _ n _) (by first | simp; done | simp; omega)) (fC (by first | rfl | exact congrArg (Value.int _) (by first | omega | assumption | (symm; assumption) | (simp; done) | (simp; omega)) | exact congrArg (fun n => Value.slice _ n _) (by first | simp; done | simp; omega)) (fN _))))), (by repeat (first | exact Agree.setL rfl Agree.mask | exact Agree.self _ _ | refine Agree.upd rfl ?_ | refine Agree.setL rfl ?_ | refine Agree.mask2 rfl ?_))⟩
          · have hnb : bitAt bs (8 * i + j) = true := by
              rw [bitAt_at (by omega), ← tb_mask _ _ (by omega)]; simpa using hc3
            refine sq ?_
            refine rg ?_
            refine mv (v := .int .i64 _) rfl rfl ?_
            refine neq rfl rfl rfl ?_
            refine asg (v := .bool _) rfl rfl ?_
            refine nl ?_
            refine then_n ?_
            first | refine cd rfl (fun hc5 => ?_) (fun hc5 => ?_) | refine cn rfl (fun hc5 => ?_) (fun hc5 => ?_)   -- test 5
            · obtain ⟨r, rfl⟩ := loc_some hc5
              refine sq ?_
              refine rg ?_
              refine mv (v := .slice _ _ _) rfl rfl ?_
              refine mv (v := .int .i64 _) rfl rfl ?_
              refine mv (v := .int .i64 _) rfl rfl ?_
              refine bu (out := ?o2) ze79 bo79 ?f2 rfl ?_
              case f2 =>
                refine FL.one (v := .int .i64 _) rfl pl79_0 rfl (by first | decide | simp) ?_
                refine FL.one (v := .int .i64 _) rfl pl79_1 rfl (by first | decide | simp) ?_
                exact FL.nil
              refine bsl (sz := 2) (out := ?o3) H Try.underlying76 ze79 sz79_2 (by decide) ?f3 rfl ?_
              case f3 =>
                refine FS.agg (vs := _) rfl rfl (by first | decide | simp) ?_
                exact FS.nil
              clear H; intro b1 w3 hb1 H F
              replace O := O.new F (by assumption) H.look
              refine apO (zs := [.int .i64 0, .int .i64 0]) [.int .i64 (r.1 : Int), .int .i64 (r.2 : Int)] O rfl rfl Try.underlying76 ri79 rfl (cells_look H.look) (by simp [Value.oneCell']) (by simp) (by omega) (by unfold maxLen; omega) rfl ?_
              clear O H; intro A9 cp9 w4 O
              replace O := O.drop
              have H := O.sh
              refine asg (v := .slice _ _ _) rfl rfl ?_
              refine nl ?_
              refine then_n ?_
              refine sq ?_
              refine rg ?_
              refine asg (v := .int .i64 _) rfl rfl ?_
              refine nl ?_
              refine then_n ?_
              refine rg ?_
              refine asg (v := .int .i64 _) rfl rfl ?_
              refine nl ?_
              refine in_n ?_
              refine in_n ?_
              refine then_n ?_
              refine rg ?_
              refine mv (v := .int .u8 _) rfl rfl ?_
              refine add rfl rfl (by first | exact w_u8 (by omega) | exact w_u8 (rng_u8 _) | exact m_u8 _) rfl ?_
              refine asg (v := .int .u8 _) rfl rfl ?_
              refine nl ?_
              refine loop_n ?_
              exact ⟨(j + 1, A9, cp9, fl ++ [r], none), (by (try dsimp only); omega), ⟨by omega, fSt_set hst hnb, by rw [List.length_append, rowsV_snoc]; exact O⟩, (fC (by first | rfl | exact congrArg (Value.int _) (by first | omega | assumption | (symm; assumption) | (simp; done) | (simp; omega)) | exact congrArg (fun n => Value.slice _ n _) (by first | simp; done | simp; omega)) (fC (by first | rfl | exact congrArg (Value.int _) (by first | omega | assumption | (symm; assumption) | (simp; done) | (simp; omega)) | exact congrArg (fun n => Value.slice _ n _) (by first | simp; done | simp; omega)) (fC (by first | rfl | exact congrArg (Value.int _) (by first | omega | assumption | (symm; assumption) | (simp; done) | (simp; omega)) | exact congrArg (fun n => Value.slice _ n _) (by first | simp; done | simp; omega)) (fC (by first | rfl | exact congrArg (Value.int _) (by first | omega | assumption | (symm; assumption) | (simp; done) | (simp; omega)) | exact congrArg (fun n => Value.slice _ n _) (by first | simp; done | simp; omega)) (fN _))))), (by repeat (first | exact Agree.setL rfl Agree.mask | exact Agree.self _ _ | refine Agree.upd rfl ?_ | refine Agree.setL rfl ?_ | refine Agree.mask2 rfl ?_))⟩
            · obtain rfl : cur = none := loc_none (by omega)
              refine sk ?_
              refine in_n ?_
              refine in_n ?_
              refine then_n ?_
              refine rg ?_
              refine mv (v := .int .u8 _) rfl rfl ?_
              refine add rfl rfl (by first | exact w_u8 (by omega) | exact w_u8 (rng_u8 _) | exact m_u8 _) rfl ?_
              refine asg (v := .int .u8 _) rfl rfl ?_
              refine nl ?_
              refine loop_n ?_
              exact ⟨(j + 1, A, cap, fl, none), (by (try dsimp only); omega), ⟨by omega, (fSt_set hst hnb).trans (by simp), O⟩, (fC (by first | rfl | exact congrArg (Value.int _) (by first | omega | assumption | (symm; assumption) | (simp; done) | (simp; omega)) | exact congrArg (fun n => Value.slice _ n _) (by first | simp; done | simp; omega)) (fC (by first | rfl | exact congrArg (Value.int _) (by first | omega | assumption | (symm; assumption) | (simp; done) | (simp; omega)) | exact congrArg (fun n => Value.slice _ n _) (by first | simp; done | simp; omega)) (fC (by first | rfl | exact congrArg (Value.int _) (by first | omega | assumption | (symm; assumption) | (simp; done) | (simp; omega)) | exact congrArg (fun n => Value.slice _ n _) (by first | simp; done | simp; omega)) (fC (by first | rfl | exact congrArg (Value.int _) (by first | omega | assumption | (symm; assumption) | (simp; done) | (simp; omega)) | exact congrArg (fun n => Value.slice _ n _) (by first | simp; done | simp; omega)) (fN _))))), (by repeat (first | exact Agree.setL rfl Agree.mask | exact Agree.self _ _ | refine Agree.upd rfl ?_ | refine Agree.setL rfl ?_ | refine Agree.mask2 rfl ?_))⟩
        · refine ex ?_
          refine then_e ?_
          refine loop_e ?_
          refine in_hit rfl ?_
          refine in_n ?_
          refine then_n ?_
          refine rg ?_
          refine add rfl rfl (by first | exact w_i64 (by omega) | exact w_i64 (rng_i64 _) | rfl) rfl ?_
          refine mv (v := .int .i64 _) rfl rfl ?_
          refine nl ?_
          refine loop_n ?_
          exact ⟨(i + 1, A, cap, fl, cur), (by (try dsimp only); omega), ⟨by omega, by rw [show 8 * (i + 1) = 8 * i + j by omega]; exact hst, O⟩, (fC (by first | rfl | exact congrArg (Value.int _) (by first | omega | assumption | (symm; assumption) | (simp; done) | (simp; omega)) | exact congrArg (fun n => Value.slice _ n _) (by first | simp; done | simp; omega)) (fC (by first | rfl | exact congrArg (Value.int _) (by first | omega | assumption | (symm; assumption) | (simp; done) | (simp; omega)) | exact congrArg (fun n => Value.slice _ n _) (by first | simp; done | simp; omega)) (fC (by first | rfl | exact congrArg (Value.int _) (by first | omega | assumption | (symm; assumption) | (simp; done) | (simp; omega)) | exact congrArg (fun n => Value.slice _ n _) (by first | simp; done | simp; omega)) (fC (by first | rfl | exact congrArg (Value.int _) (by first | omega | assumption | (symm; assumption) | (simp; done) | (simp; omega)) | exact congrArg (fun n => Value.slice _ n _) (by first | simp; done | simp; omega)) (fN _))))), (by repeat (first | exact Agree.setL rfl Agree.mask | exact Agree.self _ _ | refine Agree.upd rfl ?_ | refine Agree.setL rfl ?_ | refine Agree.mask2 rfl ?_))⟩
    · refine ex ?_
      refine then_e ?_
      refine loop_e ?_
      refine in_hit rfl ?_
      refine then_n ?_
      refine sq ?_
      refine sq ?_
      refine rg ?_
      refine mv (v := .int .i64 _) rfl rfl ?_
      refine neq rfl rfl rfl ?_
      refine nl ?_
      refine then_n ?_
      first | refine cd rfl (fun hc6 => ?_) (fun hc6 => ?_) | refine cn rfl (fun hc6 => ?_) (fun hc6 => ?_)   -- test 6
      · obtain ⟨r, rfl⟩ := loc_some hc6
        refine rg ?_
        refine mv (v := .slice _ _ _) rfl rfl ?_
        refine mv (v := .int .i64 _) rfl rfl ?_
        refine mv (v := .int .i64 _) rfl rfl ?_
        refine bu (out := ?o4) ze79 bo79 ?f4 rfl ?_
        case f4 =>
          refine FL.one (v := .int .i64 _) rfl pl79_0 rfl (by first | decide | simp) ?_
          refine FL.one (v := .int .i64 _) rfl pl79_1 rfl (by first | decide | simp) ?_
          exact FL.nil
        refine bsl (sz := 2) (out := ?o5) H Try.underlying76 ze79 sz79_2 (by decide) ?f5 rfl ?_
        case f5 =>
          refine FS.agg (vs := _) rfl rfl (by first | decide | simp) ?_
          exact FS.nil
        clear H; intro b2 w5 hb2 H F
        replace O := O.new F (by assumption) H.look
        refine apO (zs := [.int .i64 0, .int .i64 0]) [.int .i64 (r.1 : Int), .int .i64 (r.2 : Int)] O rfl rfl Try.underlying76 ri79 rfl (cells_look H.look) (by simp [Value.oneCell']) (by simp) (by omega) (by unfold maxLen; omega) rfl ?_
        clear O H; intro A9 cp9 w6 O
        replace O := O.drop
        have H := O.sh
        refine asg (v := .slice _ _ _) rfl rfl ?_
        refine nl ?_
        refine then_n ?_
        refine sq ?_
        refine rg ?_
        refine mv (v := .slice _ _ _) rfl rfl ?_
        refine asg (v := .slice _ _ _) rfl rfl ?_
        refine nl ?_
        refine then_n ?_
        refine rt ?_
        refine fin_r ?_
        have hR : rSt bs (8 * m) = fl ++ [r] := by
          have h := (f_inv bs (8 * m)).1
          rw [show 8 * m = 8 * i by omega] at h ⊢
          rw [hst] at h
          simpa [flush] using h
        rw [hR]
        exact ⟨_, _, by rw [List.length_append]; rfl, by rw [rowsV_snoc]; exact O.cells, H.fr⟩
      · obtain rfl : cur = none := loc_none (by omega)
        refine sk ?_
        refine then_n ?_
        refine sq ?_
        refine rg ?_
        refine mv (v := .slice _ _ _) rfl rfl ?_
        refine asg (v := .slice _ _ _) rfl rfl ?_
        refine nl ?_
        refine then_n ?_
        refine rt ?_
        refine fin_r ?_
        have hR : rSt bs (8 * m) = fl := by
          have h := (f_inv bs (8 * m)).1
          rw [show 8 * m = 8 * i by omega] at h ⊢
          rw [hst] at h
          simpa [flush] using h
        rw [hR]
        exact ⟨_, _, rfl, O.cells, H.fr⟩

end Go.Proofs.Ytbldfojecpljoaa.X
