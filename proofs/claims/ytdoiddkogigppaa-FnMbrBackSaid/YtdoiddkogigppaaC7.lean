/- Walks of functions, printed by a program of this claim. -/
import Derived.Test.YtdoiddkogigppaaC6
import Derived.Test.YtdoiddkogigppaaSteps5
namespace Go.Proofs.Ytdoiddkogigppaa.X
set_option linter.unusedVariables false
set_option linter.unusedSimpArgs false
open Go Go.RowKit

namespace C7
theorem ca20 : callable Try.prog 20 = true := by kernel_rfl
theorem ca23 : callable Try.prog 23 = true := by kernel_rfl
theorem ca28 : callable Try.prog 28 = true := by kernel_rfl
theorem ca35 : callable Try.prog 35 = true := by kernel_rfl
theorem fo56_0 : fieldOff Try.prog 56 0 = some 0 := by kernel_rfl
theorem fo56_1 : fieldOff Try.prog 56 1 = some 1 := by kernel_rfl
theorem fo56_2 : fieldOff Try.prog 56 2 = some 2 := by kernel_rfl
theorem fo75_1 : fieldOff Try.prog 75 1 = some 1 := by kernel_rfl
theorem fo75_2 : fieldOff Try.prog 75 2 = some 2 := by kernel_rfl
theorem fo75_3 : fieldOff Try.prog 75 3 = some 3 := by kernel_rfl
theorem fo75_4 : fieldOff Try.prog 75 4 = some 4 := by kernel_rfl
theorem sc23 : scalarB Try.prog 23 = true := by kernel_rfl
theorem sc3 : scalarB Try.prog 3 = true := by kernel_rfl
theorem sc4 : scalarB Try.prog 4 = true := by kernel_rfl
theorem sc54 : scalarB Try.prog 54 = true := by kernel_rfl
theorem sc57 : scalarB Try.prog 57 = true := by kernel_rfl
theorem sc73 : scalarB Try.prog 73 = true := by kernel_rfl
theorem sz57_1 : sizeB Try.prog 57 1 = true := by kernel_rfl

end C7
open C7

set_option maxRecDepth 100000 in
theorem c_ptEqual (w : World) (p p2 : Nat) (q r : MP) (y1 y2 y3 z1 z2 z3 : Value) (hp : w.heap[p]? = some (.cells (q.cells ++ [y1, y2, y3]).toArray 75 (0, 0))) (hp2 : w.heap[p2]? = some (.cells (r.cells ++ [z1, z2, z3]).toArray 75 (0, 0))) (he : q.bt = r.bt ∧ q.ty = r.ty ∧ q.st = r.st ∧ q.sz = r.sz) : Calls Try.prog 35 #[.pointer (some ⟨p, 0, none⟩), .pointer (some ⟨p2, 0, none⟩)] w (Ret fun v w' => v = .bool true ∧ Fr [] w w') := by
  refine enter (fun ρ => ρ 4) Try.func35 rfl rfl rfl (res1 rfl) ?_
  have H := SH.ro2 hp hp2
  refine sq ?_
  refine rg ?_
  refine asg (v := .bool _) rfl rfl ?_
  refine nl ?_
  refine then_n ?_
  refine sq ?_
  refine sq ?_
  refine rg ?_
  refine mv (v := .pointer _) rfl rfl ?_
  refine eqlP rfl Try.underlying57 rfl ?_
  refine nl ?_
  refine then_n ?_
  first | refine cF rfl rfl ?_ | refine cbF rfl rfl ?_   -- test 1
  refine sk ?_
  refine then_n ?_
  refine sq ?_
  refine dr (by kernel_rfl) ?_   -- region 3
  have H := H.drew
  refine holdH H [] ?_
  refine tk (i := 0) rfl (by kernel_rfl) rfl H (fun w' H => r_mv (v := .pointer _) rfl) ?_
  first | refine tk (i := 1) rfl (by kernel_rfl) rfl H (fun w' H => r_nc rfl) ?_ | refine tk (i := 1) rfl (by kernel_rfl) rfl H (fun w' H => r_nci rfl) ?_
  refine tk (i := 2) rfl (by kernel_rfl) rfl H (fun w' H => r_fa rfl fo75_1) ?_
  first | refine tk (i := 3) rfl (by kernel_rfl) rfl H (fun w' H => r_ld H rfl sc4 rfl) ?_ | refine tk (i := 3) rfl (by kernel_rfl) rfl H (fun w' H => r_lc rfl (by first | assumption | exact H.fr.cell (by assumption) (by simp)) sc4) ?_ | refine tk (i := 3) rfl (by kernel_rfl) rfl H (fun w' H => r_ld H rfl sc4 (by assumption)) ?_
  refine tk (i := 4) rfl (by kernel_rfl) rfl H (fun w' H => r_mv (v := .pointer _) rfl) ?_
  first | refine tk (i := 5) rfl (by kernel_rfl) rfl H (fun w' H => r_nc rfl) ?_ | refine tk (i := 5) rfl (by kernel_rfl) rfl H (fun w' H => r_nci rfl) ?_
  refine tk (i := 6) rfl (by kernel_rfl) rfl H (fun w' H => r_fa rfl fo75_1) ?_
  first | refine tk (i := 7) rfl (by kernel_rfl) rfl H (fun w' H => r_ld H rfl sc4 rfl) ?_ | refine tk (i := 7) rfl (by kernel_rfl) rfl H (fun w' H => r_lc rfl (by first | assumption | exact H.fr.cell (by assumption) (by simp)) sc4) ?_ | refine tk (i := 7) rfl (by kernel_rfl) rfl H (fun w' H => r_ld H rfl sc4 (by assumption)) ?_
  refine tk (i := 8) rfl (by kernel_rfl) rfl H (fun w' H => r_eqlB rfl rfl Try.underlying4) ?_
  refine tk (i := 9) rfl (by kernel_rfl) rfl H (fun w' H => r_mv (v := .bool _) rfl) ?_
  first | refine spaL (t := 16) (b := true) rfl ?_ | refine spaT (t := 16) rfl he.1 ?_   -- guard 1
  refine tkg (i := 10) rfl (by kernel_rfl) rfl H rfl (fun w' H => r_mv (v := .pointer _) rfl) ?_
  first | refine tkg (i := 11) rfl (by kernel_rfl) rfl H rfl (fun w' H => r_nc rfl) ?_ | refine tkg (i := 11) rfl (by kernel_rfl) rfl H rfl (fun w' H => r_nci rfl) ?_
  refine tkg (i := 12) rfl (by kernel_rfl) rfl H rfl (fun w' H => r_fa rfl fo75_2) ?_
  first | refine tkg (i := 13) rfl (by kernel_rfl) rfl H rfl (fun w' H => r_ldb H rfl sc73 (by omega)) ?_ | refine tkg (i := 13) rfl (by kernel_rfl) rfl H rfl (fun w' H => r_ld H rfl sc73 rfl) ?_ | refine tkg (i := 13) rfl (by kernel_rfl) rfl H rfl (fun w' H => r_lc rfl (by assumption) sc73) ?_
  refine tkg (i := 14) rfl (by kernel_rfl) rfl H rfl (fun w' H => r_mv (v := .pointer _) rfl) ?_
  first | refine tkg (i := 15) rfl (by kernel_rfl) rfl H rfl (fun w' H => r_nc rfl) ?_ | refine tkg (i := 15) rfl (by kernel_rfl) rfl H rfl (fun w' H => r_nci rfl) ?_
  refine tkg (i := 16) rfl (by kernel_rfl) rfl H rfl (fun w' H => r_fa rfl fo75_2) ?_
  first | refine tkg (i := 17) rfl (by kernel_rfl) rfl H rfl (fun w' H => r_ldb H rfl sc73 (by omega)) ?_ | refine tkg (i := 17) rfl (by kernel_rfl) rfl H rfl (fun w' H => r_ld H rfl sc73 rfl) ?_ | refine tkg (i := 17) rfl (by kernel_rfl) rfl H rfl (fun w' H => r_lc rfl (by assumption) sc73) ?_
  refine tkg (i := 18) rfl (by kernel_rfl) rfl H rfl (fun w' H => r_eql rfl rfl) ?_
  refine tk (i := 19) rfl (by kernel_rfl) rfl H (fun w' H => r_pkT (v := .bool _) rfl rfl) ?_
  refine tk (i := 20) rfl (by kernel_rfl) rfl H (fun w' H => r_mv (v := .bool _) rfl) ?_
  first | refine spaL (t := 27) (b := true) rfl ?_ | refine spaT (t := 27) rfl he.2.1 ?_   -- guard 2
  refine tkg (i := 21) rfl (by kernel_rfl) rfl H rfl (fun w' H => r_mv (v := .pointer _) rfl) ?_
  first | refine tkg (i := 22) rfl (by kernel_rfl) rfl H rfl (fun w' H => r_nc rfl) ?_ | refine tkg (i := 22) rfl (by kernel_rfl) rfl H rfl (fun w' H => r_nci rfl) ?_
  refine tkg (i := 23) rfl (by kernel_rfl) rfl H rfl (fun w' H => r_fa rfl fo75_3) ?_
  first | refine tkg (i := 24) rfl (by kernel_rfl) rfl H rfl (fun w' H => r_ld H rfl sc23 rfl) ?_ | refine tkg (i := 24) rfl (by kernel_rfl) rfl H rfl (fun w' H => r_lc rfl (by first | assumption | exact H.fr.cell (by assumption) (by simp)) sc23) ?_ | refine tkg (i := 24) rfl (by kernel_rfl) rfl H rfl (fun w' H => r_ld H rfl sc23 (by assumption)) ?_
  refine tkg (i := 25) rfl (by kernel_rfl) rfl H rfl (fun w' H => r_mv (v := .pointer _) rfl) ?_
  first | refine tkg (i := 26) rfl (by kernel_rfl) rfl H rfl (fun w' H => r_nc rfl) ?_ | refine tkg (i := 26) rfl (by kernel_rfl) rfl H rfl (fun w' H => r_nci rfl) ?_
  refine tkg (i := 27) rfl (by kernel_rfl) rfl H rfl (fun w' H => r_fa rfl fo75_3) ?_
  first | refine tkg (i := 28) rfl (by kernel_rfl) rfl H rfl (fun w' H => r_ld H rfl sc23 rfl) ?_ | refine tkg (i := 28) rfl (by kernel_rfl) rfl H rfl (fun w' H => r_lc rfl (by first | assumption | exact H.fr.cell (by assumption) (by simp)) sc23) ?_ | refine tkg (i := 28) rfl (by kernel_rfl) rfl H rfl (fun w' H => r_ld H rfl sc23 (by assumption)) ?_
  refine tkg (i := 29) rfl (by kernel_rfl) rfl H rfl (fun w' H => r_eql rfl rfl) ?_
  refine tk (i := 30) rfl (by kernel_rfl) rfl H (fun w' H => r_pkT (v := .bool _) rfl rfl) ?_
  refine tk (i := 31) rfl (by kernel_rfl) rfl H (fun w' H => r_mv (v := .bool _) rfl) ?_
  first | refine spaL (t := 38) (b := true) rfl ?_ | refine spaT (t := 38) rfl he.2.2.1 ?_   -- guard 3
  refine tkg (i := 32) rfl (by kernel_rfl) rfl H rfl (fun w' H => r_mv (v := .pointer _) rfl) ?_
  first | refine tkg (i := 33) rfl (by kernel_rfl) rfl H rfl (fun w' H => r_nc rfl) ?_ | refine tkg (i := 33) rfl (by kernel_rfl) rfl H rfl (fun w' H => r_nci rfl) ?_
  refine tkg (i := 34) rfl (by kernel_rfl) rfl H rfl (fun w' H => r_fa rfl fo75_4) ?_
  first | refine tkg (i := 35) rfl (by kernel_rfl) rfl H rfl (fun w' H => r_ld H rfl sc23 rfl) ?_ | refine tkg (i := 35) rfl (by kernel_rfl) rfl H rfl (fun w' H => r_lc rfl (by first | assumption | exact H.fr.cell (by assumption) (by simp)) sc23) ?_ | refine tkg (i := 35) rfl (by kernel_rfl) rfl H rfl (fun w' H => r_ld H rfl sc23 (by assumption)) ?_
  refine tkg (i := 36) rfl (by kernel_rfl) rfl H rfl (fun w' H => r_mv (v := .pointer _) rfl) ?_
  first | refine tkg (i := 37) rfl (by kernel_rfl) rfl H rfl (fun w' H => r_nc rfl) ?_ | refine tkg (i := 37) rfl (by kernel_rfl) rfl H rfl (fun w' H => r_nci rfl) ?_
  refine tkg (i := 38) rfl (by kernel_rfl) rfl H rfl (fun w' H => r_fa rfl fo75_4) ?_
  first | refine tkg (i := 39) rfl (by kernel_rfl) rfl H rfl (fun w' H => r_ld H rfl sc23 rfl) ?_ | refine tkg (i := 39) rfl (by kernel_rfl) rfl H rfl (fun w' H => r_lc rfl (by first | assumption | exact H.fr.cell (by assumption) (by simp)) sc23) ?_ | refine tkg (i := 39) rfl (by kernel_rfl) rfl H rfl (fun w' H => r_ld H rfl sc23 (by assumption)) ?_
  refine tkg (i := 40) rfl (by kernel_rfl) rfl H rfl (fun w' H => r_eql rfl rfl) ?_
  refine tk (i := 41) rfl (by kernel_rfl) rfl H (fun w' H => r_pkT (v := .bool _) rfl rfl) ?_
  refine tk (i := 42) rfl (by kernel_rfl) rfl H (fun w' H => r_asg (v := .bool _) rfl) ?_
  refine da (by kernel_rfl) ?_
  refine then_n ?_
  refine rt ?_
  refine fin_r ?_
  exact ⟨congrArg Value.bool (decide_eq_true he.2.2.2), H.fr⟩

set_option maxRecDepth 100000 in
theorem c_cmp1 (w : World) (a b : Addr) (k cap cap2 t t2 : Nat) (l l2 : PL) (qs rs : List MP) (h1 : TabAt 56 75 w t (some a) k cap l qs) (h2 : TabAt 56 75 w t2 (some b) k cap2 l2 rs) (he : ∀ (i : Nat) (q r : MP), qs[i]? = some q → rs[i]? = some r → eqM q r = true) (hk : k ≤ 1000) : Calls Try.prog 28 #[.slice (some a) k cap, .slice (some b) k cap2] w (Ret fun v w' => v = .bool true ∧ Fr [] w w') := by
  refine enter (fun ρ => ρ 4) Try.func28 rfl rfl rfl (res1 rfl) ?_
  have H := SH.nil w
  refine sq ?_
  refine rg ?_
  refine asg (v := .bool _) rfl rfl ?_
  refine nl ?_
  refine then_n ?_
  refine sq ?_
  refine sq ?_
  refine rg ?_
  refine mv (v := .slice _ _ _) rfl rfl ?_
  refine eqlN rfl Try.underlying54 rfl ?_
  refine mv (v := .bool _) rfl rfl ?_
  first | refine spL (t := 10) (b := false) rfl ?_ | refine spF (t := 10) rfl rfl ?_   -- guard 1
  refine gn rfl rfl ?_
  refine gn rfl rfl ?_
  refine pkF (v := .bool _) rfl rfl rfl ?_
  refine mv (v := .bool _) rfl rfl ?_
  refine gy rfl ?_
  refine mv (v := .slice _ _ _) rfl rfl ?_
  refine gy rfl ?_
  refine eqlN rfl Try.underlying54 rfl ?_
  refine gy rfl ?_
  refine mv (v := .bool _) rfl rfl ?_
  first | refine spL (t := 17) (b := false) rfl ?_ | refine spF (t := 17) rfl rfl ?_   -- guard 2
  refine gn rfl rfl ?_
  refine gn rfl rfl ?_
  refine gy rfl ?_
  refine pkF (v := .bool _) rfl rfl rfl ?_
  refine pkF (v := .bool _) rfl rfl rfl ?_
  refine nl ?_
  refine then_n ?_
  refine cbF rfl rfl ?_
  refine sk ?_
  refine then_n ?_
  refine sq ?_
  refine sq ?_
  refine rg ?_
  refine mv (v := .slice _ _ _) rfl rfl ?_
  refine eqlN rfl Try.underlying54 rfl ?_
  refine mv (v := .bool _) rfl rfl ?_
  first | refine spL (t := 24) (b := false) rfl ?_ | refine spF (t := 24) rfl rfl ?_   -- guard 3
  refine gn rfl rfl ?_
  refine gn rfl rfl ?_
  refine pkF (v := .bool _) rfl rfl rfl ?_
  refine nl ?_
  refine then_n ?_
  refine cbF rfl rfl ?_
  refine sk ?_
  refine then_n ?_
  refine sq ?_
  refine sq ?_
  refine rg ?_
  refine mv (v := .slice _ _ _) rfl rfl ?_
  refine lnS rfl Try.underlying54 rfl ?_
  refine mv (v := .slice _ _ _) rfl rfl ?_
  refine lnS rfl Try.underlying54 rfl ?_
  refine neq rfl rfl rfl ?_
  refine nl ?_
  refine then_n ?_
  first | refine cF rfl (fun h => h rfl) ?_ | refine cbF rfl (fun h => h rfl) ?_   -- test 1
  refine sk ?_
  refine then_n ?_
  refine sq ?_
  refine rg ?_
  refine asg (v := .bool _) rfl rfl ?_
  refine nl ?_
  refine then_n ?_
  refine sq ?_
  refine sq ?_
  refine rg ?_
  refine mv (v := .slice _ _ _) rfl rfl ?_
  refine lnS rfl Try.underlying54 rfl ?_
  refine mv (v := .int .i64 _) rfl rfl ?_
  refine nl ?_
  refine then_n ?_
  refine bk ?_
  refine lpM (α := Nat) [5, 6, 7, 35, 36, 37, 38, 39, 40, 41, 42, 43, 44, 45, 46, 47, 48, 49, 50, 51, 52, 53, 54, 55] (fun i => [(5, .bool true), (35, .int .i64 (i : Int))]) (fun i w' => i ≤ k ∧ SH w [] w' []) (fun i => k - i) 0 ?_ (fC (by first | rfl | exact congrArg (Value.int _) (by first | omega | assumption | (symm; assumption) | (simp; done) | (simp; omega)) | exact congrArg (fun n => Value.slice _ n _) (by first | simp; done | simp; omega)) (fC (by first | rfl | exact congrArg (Value.int _) (by first | omega | assumption | (symm; assumption) | (simp; done) | (simp; omega)) | exact congrArg (fun n => Value.slice _ n _) (by first | simp; done | simp; omega)) (fN _))) ?_   -- loop 1
  · exact ⟨by omega, H⟩
  · rintro i ρx w1 ⟨hi, H⟩
    refine sq ?_
    refine rg ?_
    refine lss rfl rfl rfl ?_
    refine nl ?_
    refine then_n ?_
    refine sq ?_
    first | refine cd rfl (fun hc2 => ?_) (fun hc2 => ?_) | refine cn rfl (fun hc2 => ?_) (fun hc2 => ?_)   -- test 2
    · obtain ⟨x, hx⟩ : ∃ x, l[i]? = some x := ⟨_, List.getElem?_eq_getElem (by have := h1.len; omega)⟩
      obtain ⟨y, hy⟩ : ∃ y, l2[i]? = some y := ⟨_, List.getElem?_eq_getElem (by have := h2.len; omega)⟩
      obtain ⟨q, hqi, hxq⟩ := h1.q i x hx
      obtain ⟨r, hri, hyr⟩ := h2.q i y hy
      have hpx := (h1.keep H.fr).blk i x hx
      have hpy := (h2.keep H.fr).blk i y hy
      rw [hxq] at hpx; rw [hyr] at hpy
      obtain ⟨_, e1, hcx⟩ := (h1.keep H.fr).row i x hx
      cases e1
      obtain ⟨_, e2, hcy⟩ := (h2.keep H.fr).row i y hy
      cases e2
      have he' := of_decide_eq_true (he i q r hqi hri)
      refine sk ?_
      refine then_n ?_
      refine sq ?_
      refine bk ?_
      refine sq ?_
      refine rg ?_
      refine mv (v := .int .i64 _) rfl rfl ?_
      refine iBN (a.add i) rfl rfl Try.underlying54 sz57_1 (by omega) (by simp) rfl ?_
      first | refine ld H rfl sc57 rfl rfl ?_ | refine lc rfl (by first | assumption | exact H.fr.cell (by assumption) (by simp)) sc57 rfl ?_ | refine ld H rfl sc57 (by assumption) rfl ?_
      refine asg (v := .int .i64 _) rfl rfl ?_
      refine asg (v := .pointer _) rfl rfl ?_
      refine nl ?_
      refine then_n ?_
      refine sq ?_
      refine rg ?_
      refine mv (v := .pointer _) rfl rfl ?_
      refine eqlP rfl Try.underlying57 rfl ?_
      refine mv (v := .bool _) rfl rfl ?_
      first | refine spL (t := 42) (b := false) rfl ?_ | refine spF (t := 42) rfl rfl ?_   -- guard 4
      refine gn rfl rfl ?_
      refine gn rfl rfl ?_
      refine pkF (v := .bool _) rfl rfl rfl ?_
      refine mv (v := .bool _) rfl rfl ?_
      refine gy rfl ?_
      refine mv (v := .pointer _) rfl rfl ?_
      refine gy rfl ?_
      refine mv (v := .slice _ _ _) rfl rfl ?_
      refine gy rfl ?_
      refine mv (v := .int .i64 _) rfl rfl ?_
      refine gy rfl ?_
      refine iBN (b.add i) rfl rfl Try.underlying54 sz57_1 (by omega) (by simp) rfl ?_
      refine gy rfl ?_
      first | refine ld H rfl sc57 rfl rfl ?_ | refine lc rfl (by first | assumption | exact H.fr.cell (by assumption) (by simp)) sc57 rfl ?_ | refine ld H rfl sc57 (by assumption) rfl ?_
      refine gy rfl ?_
      refine cl ca35 (c_ptEqual _ _ _ q r _ _ _ _ _ _ hpx hpy he') rfl ?_
      rintro _ w2 ⟨rfl, F⟩
      replace H := H.keep F; clear F
      refine gy rfl ?_
      refine unot rfl rfl ?_
      refine pkF (v := .bool _) rfl rfl rfl ?_
      refine nl ?_
      refine then_n ?_
      first | refine cF rfl rfl ?_ | refine cbF rfl rfl ?_   -- test 3
      refine sk ?_
      refine in_n ?_
      refine then_n ?_
      refine rg ?_
      refine add rfl rfl (by first | exact w_i64 (by omega) | exact w_i64 (rng_i64 _) | rfl) rfl ?_
      refine mv (v := .int .i64 _) rfl rfl ?_
      refine nl ?_
      refine loop_n ?_
      exact ⟨i + 1, (by (try dsimp only); omega), ⟨by omega, H⟩, (fC (by first | rfl | exact congrArg (Value.int _) (by first | omega | assumption | (symm; assumption) | (simp; done) | (simp; omega)) | exact congrArg (fun n => Value.slice _ n _) (by first | simp; done | simp; omega)) (fC (by first | rfl | exact congrArg (Value.int _) (by first | omega | assumption | (symm; assumption) | (simp; done) | (simp; omega)) | exact congrArg (fun n => Value.slice _ n _) (by first | simp; done | simp; omega)) (fN _))), (by repeat (first | exact Agree.setL rfl Agree.mask | exact Agree.self _ _ | refine Agree.upd rfl ?_ | refine Agree.setL rfl ?_ | refine Agree.mask2 rfl ?_))⟩
    · refine ex ?_
      refine then_e ?_
      refine loop_e ?_
      refine in_hit rfl ?_
      refine then_n ?_
      refine sq ?_
      refine rg ?_
      refine mv (v := .bool _) rfl rfl ?_
      refine asg (v := .bool _) rfl rfl ?_
      refine nl ?_
      refine then_n ?_
      refine rt ?_
      refine fin_r ?_
      exact ⟨rfl, H.fr⟩

set_option maxRecDepth 100000 in
theorem c_cmp0 (w : World) (cap cap2 k : Nat) : Calls Try.prog 28 #[.slice none k cap, .slice none k cap2] w (Ret fun v w' => v = .bool true ∧ Fr [] w w') := by
  refine enter (fun ρ => ρ 4) Try.func28 rfl rfl rfl (res1 rfl) ?_
  have H := SH.nil w
  refine sq ?_
  refine rg ?_
  refine asg (v := .bool _) rfl rfl ?_
  refine nl ?_
  refine then_n ?_
  refine sq ?_
  refine sq ?_
  refine rg ?_
  refine mv (v := .slice _ _ _) rfl rfl ?_
  refine eqlN rfl Try.underlying54 rfl ?_
  refine mv (v := .bool _) rfl rfl ?_
  first | refine spL (t := 10) (b := true) rfl ?_ | refine spT (t := 10) rfl rfl ?_   -- guard 1
  refine gy rfl ?_
  refine mv (v := .slice _ _ _) rfl rfl ?_
  refine gy rfl ?_
  refine neqN rfl Try.underlying54 rfl ?_
  refine pkT (v := .bool _) rfl rfl rfl ?_
  refine mv (v := .bool _) rfl rfl ?_
  first | refine spL (t := 14) (b := false) rfl ?_ | refine spF (t := 14) rfl rfl ?_   -- guard 2
  refine gy rfl ?_
  refine mv (v := .slice _ _ _) rfl rfl ?_
  refine gy rfl ?_
  refine eqlN rfl Try.underlying54 rfl ?_
  refine gy rfl ?_
  refine mv (v := .bool _) rfl rfl ?_
  first | refine spL (t := 17) (b := true) rfl ?_ | refine spT (t := 17) rfl rfl ?_   -- guard 3
  refine gy rfl ?_
  refine mv (v := .slice _ _ _) rfl rfl ?_
  refine gy rfl ?_
  refine neqN rfl Try.underlying54 rfl ?_
  refine gy rfl ?_
  refine pkT (v := .bool _) rfl rfl rfl ?_
  refine pkF (v := .bool _) rfl rfl rfl ?_
  refine nl ?_
  refine then_n ?_
  first | refine cF rfl rfl ?_ | refine cbF rfl rfl ?_   -- test 1
  refine sk ?_
  refine then_n ?_
  refine sq ?_
  refine sq ?_
  refine rg ?_
  refine mv (v := .slice _ _ _) rfl rfl ?_
  refine eqlN rfl Try.underlying54 rfl ?_
  refine mv (v := .bool _) rfl rfl ?_
  first | refine spL (t := 24) (b := true) rfl ?_ | refine spT (t := 24) rfl rfl ?_   -- guard 4
  refine gy rfl ?_
  refine mv (v := .slice _ _ _) rfl rfl ?_
  refine gy rfl ?_
  refine eqlN rfl Try.underlying54 rfl ?_
  refine pkT (v := .bool _) rfl rfl rfl ?_
  refine nl ?_
  refine then_n ?_
  first | refine cT rfl rfl ?_ | refine cbT rfl rfl ?_   -- test 2
  refine sq ?_
  refine rg ?_
  refine asg (v := .bool _) rfl rfl ?_
  refine nl ?_
  refine then_n ?_
  refine rt ?_
  refine then_r ?_
  refine fin_r ?_
  exact ⟨rfl, H.fr⟩

theorem c_cmp (w : World) (A B : Option Addr) (k cap cap2 t t2 : Nat) (l l2 : PL) (qs rs : List MP) (h1 : TabAt 56 75 w t A k cap l qs) (h2 : TabAt 56 75 w t2 B k cap2 l2 rs) (he : ∀ (i : Nat) (q r : MP), qs[i]? = some q → rs[i]? = some r → eqM q r = true) (hk : k ≤ 1000) (hA : k = 0 → A = none) (hB : k = 0 → B = none) : Calls Try.prog 28 #[.slice A k cap, .slice B k cap2] w (Ret fun v w' => v = .bool true ∧ Fr [] w w') := by
  by_cases h0 : k = 0
  · rw [hA h0, hB h0]; exact c_cmp0 w cap cap2 k
  · obtain ⟨x, hx⟩ : ∃ x, l[0]? = some x := ⟨_, List.getElem?_eq_getElem (by have := h1.len; omega)⟩
    obtain ⟨y, hy⟩ : ∃ y, l2[0]? = some y := ⟨_, List.getElem?_eq_getElem (by have := h2.len; omega)⟩
    obtain ⟨a, rfl, _⟩ := h1.row 0 x hx
    obtain ⟨b, rfl, _⟩ := h2.row 0 y hy
    exact c_cmp1 w a b k cap cap2 t t2 l l2 qs rs h1 h2 he hk

set_option maxRecDepth 100000 in
theorem c_tabEqual (w : World) (A B : Option Addr) (k cap cap2 t t2 : Nat) (l l2 : PL) (qs rs : List MP) (h1 : TabAt 56 75 w t A k cap l qs) (h2 : TabAt 56 75 w t2 B k cap2 l2 rs) (he : ∀ (i : Nat) (q r : MP), qs[i]? = some q → rs[i]? = some r → eqM q r = true) (hk : k ≤ 1000) (hA : k = 0 → A = none) (hB : k = 0 → B = none) : Calls Try.prog 23 #[.pointer (some ⟨t, 0, none⟩), .pointer (some ⟨t2, 0, none⟩)] w (Ret fun v w' => v = .bool true ∧ Fr [] w w') := by
  refine enter (fun ρ => ρ 4) Try.func23 rfl rfl rfl (res1 rfl) ?_
  have H := SH.ro2 h1.tab h2.tab
  refine sq ?_
  refine rg ?_
  refine asg (v := .bool _) rfl rfl ?_
  refine nl ?_
  refine then_n ?_
  refine sq ?_
  refine sq ?_
  refine rg ?_
  refine mv (v := .pointer _) rfl rfl ?_
  refine eqlP rfl Try.underlying47 rfl ?_
  refine nl ?_
  refine then_n ?_
  first | refine cF rfl rfl ?_ | refine cbF rfl rfl ?_   -- test 1
  refine sk ?_
  refine then_n ?_
  refine sq ?_
  refine dr (by kernel_rfl) ?_   -- region 3
  have H := H.drew
  refine holdH H [] ?_
  refine tk (i := 0) rfl (by kernel_rfl) rfl H (fun w' H => r_mv (v := .pointer _) rfl) ?_
  first | refine tk (i := 1) rfl (by kernel_rfl) rfl H (fun w' H => r_nc rfl) ?_ | refine tk (i := 1) rfl (by kernel_rfl) rfl H (fun w' H => r_nci rfl) ?_
  refine tk (i := 2) rfl (by kernel_rfl) rfl H (fun w' H => r_fa rfl fo56_1) ?_
  first | refine tk (i := 3) rfl (by kernel_rfl) rfl H (fun w' H => r_ld H rfl sc3 rfl) ?_ | refine tk (i := 3) rfl (by kernel_rfl) rfl H (fun w' H => r_lc rfl (by first | assumption | exact H.fr.cell (by assumption) (by simp)) sc3) ?_ | refine tk (i := 3) rfl (by kernel_rfl) rfl H (fun w' H => r_ld H rfl sc3 (by assumption)) ?_
  refine tk (i := 4) rfl (by kernel_rfl) rfl H (fun w' H => r_mv (v := .pointer _) rfl) ?_
  first | refine tk (i := 5) rfl (by kernel_rfl) rfl H (fun w' H => r_nc rfl) ?_ | refine tk (i := 5) rfl (by kernel_rfl) rfl H (fun w' H => r_nci rfl) ?_
  refine tk (i := 6) rfl (by kernel_rfl) rfl H (fun w' H => r_fa rfl fo56_1) ?_
  first | refine tk (i := 7) rfl (by kernel_rfl) rfl H (fun w' H => r_ld H rfl sc3 rfl) ?_ | refine tk (i := 7) rfl (by kernel_rfl) rfl H (fun w' H => r_lc rfl (by first | assumption | exact H.fr.cell (by assumption) (by simp)) sc3) ?_ | refine tk (i := 7) rfl (by kernel_rfl) rfl H (fun w' H => r_ld H rfl sc3 (by assumption)) ?_
  refine tk (i := 8) rfl (by kernel_rfl) rfl H (fun w' H => r_eql rfl rfl) ?_
  refine tk (i := 9) rfl (by kernel_rfl) rfl H (fun w' H => r_mv (v := .bool _) rfl) ?_
  first | refine spaL (t := 18) (b := true) rfl ?_ | refine spaT (t := 18) rfl rfl ?_   -- guard 1
  refine tkg (i := 10) rfl (by kernel_rfl) rfl H rfl (fun w' H => r_mv (v := .pointer _) rfl) ?_
  first | refine tkg (i := 11) rfl (by kernel_rfl) rfl H rfl (fun w' H => r_nc rfl) ?_ | refine tkg (i := 11) rfl (by kernel_rfl) rfl H rfl (fun w' H => r_nci rfl) ?_
  refine tkg (i := 12) rfl (by kernel_rfl) rfl H rfl (fun w' H => r_fa rfl fo56_2) ?_
  first | refine tkg (i := 13) rfl (by kernel_rfl) rfl H rfl (fun w' H => r_ld H rfl sc3 rfl) ?_ | refine tkg (i := 13) rfl (by kernel_rfl) rfl H rfl (fun w' H => r_lc rfl (by first | assumption | exact H.fr.cell (by assumption) (by simp)) sc3) ?_ | refine tkg (i := 13) rfl (by kernel_rfl) rfl H rfl (fun w' H => r_ld H rfl sc3 (by assumption)) ?_
  refine tkg (i := 14) rfl (by kernel_rfl) rfl H rfl (fun w' H => r_mv (v := .pointer _) rfl) ?_
  first | refine tkg (i := 15) rfl (by kernel_rfl) rfl H rfl (fun w' H => r_nc rfl) ?_ | refine tkg (i := 15) rfl (by kernel_rfl) rfl H rfl (fun w' H => r_nci rfl) ?_
  refine tkg (i := 16) rfl (by kernel_rfl) rfl H rfl (fun w' H => r_fa rfl fo56_2) ?_
  first | refine tkg (i := 17) rfl (by kernel_rfl) rfl H rfl (fun w' H => r_ld H rfl sc3 rfl) ?_ | refine tkg (i := 17) rfl (by kernel_rfl) rfl H rfl (fun w' H => r_lc rfl (by first | assumption | exact H.fr.cell (by assumption) (by simp)) sc3) ?_ | refine tkg (i := 17) rfl (by kernel_rfl) rfl H rfl (fun w' H => r_ld H rfl sc3 (by assumption)) ?_
  refine tkg (i := 18) rfl (by kernel_rfl) rfl H rfl (fun w' H => r_eql rfl rfl) ?_
  refine tk (i := 19) rfl (by kernel_rfl) rfl H (fun w' H => r_pkT (v := .bool _) rfl rfl) ?_
  refine tk (i := 20) rfl (by kernel_rfl) rfl H (fun w' H => r_asg (v := .bool _) rfl) ?_
  refine da (by kernel_rfl) ?_
  refine then_n ?_
  refine sq ?_
  refine dr (by kernel_rfl) ?_   -- region 4
  have H := H.drew
  refine holdH H [] ?_
  refine tk (i := 0) rfl (by kernel_rfl) rfl H (fun w' H => r_mv (v := .pointer _) rfl) ?_
  first | refine tk (i := 1) rfl (by kernel_rfl) rfl H (fun w' H => r_nc rfl) ?_ | refine tk (i := 1) rfl (by kernel_rfl) rfl H (fun w' H => r_nci rfl) ?_
  refine tk (i := 2) rfl (by kernel_rfl) rfl H (fun w' H => r_fa rfl fo56_0) ?_
  first | refine tk (i := 3) rfl (by kernel_rfl) rfl H (fun w' H => r_ld H rfl sc54 rfl) ?_ | refine tk (i := 3) rfl (by kernel_rfl) rfl H (fun w' H => r_lc rfl (by first | assumption | exact H.fr.cell (by assumption) (by simp)) sc54) ?_ | refine tk (i := 3) rfl (by kernel_rfl) rfl H (fun w' H => r_ld H rfl sc54 (by assumption)) ?_
  refine tk (i := 4) rfl (by kernel_rfl) rfl H (fun w' H => r_mv (v := .pointer _) rfl) ?_
  first | refine tk (i := 5) rfl (by kernel_rfl) rfl H (fun w' H => r_nc rfl) ?_ | refine tk (i := 5) rfl (by kernel_rfl) rfl H (fun w' H => r_nci rfl) ?_
  refine tk (i := 6) rfl (by kernel_rfl) rfl H (fun w' H => r_fa rfl fo56_0) ?_
  first | refine tk (i := 7) rfl (by kernel_rfl) rfl H (fun w' H => r_ld H rfl sc54 rfl) ?_ | refine tk (i := 7) rfl (by kernel_rfl) rfl H (fun w' H => r_lc rfl (by first | assumption | exact H.fr.cell (by assumption) (by simp)) sc54) ?_ | refine tk (i := 7) rfl (by kernel_rfl) rfl H (fun w' H => r_ld H rfl sc54 (by assumption)) ?_
  refine fk (i := 8) (by kernel_rfl) rfl rfl rfl ?_
  refine cl ca28 (c_cmp _ A B k cap cap2 t t2 l l2 qs rs (h1.keep H.fr) (h2.keep H.fr) he hk hA hB) rfl ?_
  rintro _ w1 ⟨rfl, F⟩
  replace H := H.keep F; clear F
  refine nl ?_
  refine then_n ?_
  refine ⟨H, ?_⟩
  refine tk (i := 9) rfl (by kernel_rfl) rfl H (fun w' H => r_asg (v := .bool _) rfl) ?_
  refine da (by kernel_rfl) ?_
  refine then_n ?_
  refine sq ?_
  refine rg ?_
  refine mv (v := .bool _) rfl rfl ?_
  refine mv (v := .bool _) rfl rfl ?_
  first | refine spL (t := 39) (b := true) rfl ?_ | refine spT (t := 39) rfl rfl ?_   -- guard 2
  refine gy rfl ?_
  refine mv (v := .bool _) rfl rfl ?_
  refine pkT (v := .bool _) rfl rfl rfl ?_
  refine asg (v := .bool _) rfl rfl ?_
  refine nl ?_
  refine then_n ?_
  refine rt ?_
  refine fin_r ?_
  exact ⟨rfl, H.fr⟩

set_option maxRecDepth 100000 in
theorem c_MbrEqual (w : World) (A2 B2 : Option Addr) (k c2 c3 : Nat) (qs rs : List MP) (hq : RM w A2 k c2 qs) (hr : RM w B2 k c3 rs) (hk : k ≤ 1000) (he : ∀ (i : Nat) (q r : MP), qs[i]? = some q → rs[i]? = some r → eqM q r = true) : Calls Try.prog 14 #[.slice A2 k c2, .slice B2 k c3, .int .i64 512] w (Ret fun v w' => v = .bool true ∧ Fr [] w w') := by
  refine enter (fun ρ => ρ 6) Try.func14 rfl rfl rfl (res1 rfl) ?_
  have H := SH.nil w
  refine sq ?_
  refine rg ?_
  refine asg (v := .bool _) rfl rfl ?_
  refine nl ?_
  refine then_n ?_
  refine sq ?_
  refine rg ?_
  refine mv (v := .slice _ _ _) rfl rfl ?_
  refine mv (v := .int .i64 _) rfl rfl ?_
  refine cl ca20 (c_mbrTable _ A2 k c2 qs hq hk) rfl ?_
  rintro _ w1 ⟨t, A, cap, l, rfl, hT, hA0, ht, F⟩
  replace H := H.keep F; clear F
  refine mv (v := .slice _ _ _) rfl rfl ?_
  refine mv (v := .int .i64 _) rfl rfl ?_
  refine cl ca20 (c_mbrTable _ B2 k c3 rs (hr.keep H.fr) hk) rfl ?_
  rintro _ w2 ⟨t1, A1, cap1, l1, rfl, hT1, hA1, ht1, F1⟩
  replace H := H.keep F1
  refine cl ca23 (c_tabEqual _ A A1 k cap cap1 t t1 l l1 qs rs (hT.keep F1) hT1 he (by omega) hA0 hA1) rfl ?_
  rintro _ w3 ⟨rfl, F⟩
  replace H := H.keep F; clear F
  refine asg (v := .bool _) rfl rfl ?_
  refine nl ?_
  refine then_n ?_
  refine rt ?_
  refine fin_r ?_
  exact ⟨rfl, H.fr⟩

end Go.Proofs.Ytdoiddkogigppaa.X
