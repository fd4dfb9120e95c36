/- Walks of functions, printed by a program of this claim. -/
import Derived.Test.YtdoiddkogigppaaC1
import Derived.Test.YtdoiddkogigppaaMbrTab2
namespace Go.Proofs.Ytdoiddkogigppaa.X
set_option linter.unusedVariables false
set_option linter.unusedSimpArgs false
open Go Go.RowKit

namespace C2
theorem ag26_11 : aggB Try.prog 26 11 = true := by kernel_rfl
theorem bo56 : buildOK Try.prog 56 = true := by kernel_rfl
theorem bo75 : buildOK Try.prog 75 = true := by kernel_rfl
theorem ca26 : callable Try.prog 26 = true := by kernel_rfl
theorem fo26_0 : fieldOff Try.prog 26 0 = some 0 := by kernel_rfl
theorem fo26_1 : fieldOff Try.prog 26 1 = some 1 := by kernel_rfl
theorem fo26_2 : fieldOff Try.prog 26 2 = some 2 := by kernel_rfl
theorem fo26_3 : fieldOff Try.prog 26 3 = some 3 := by kernel_rfl
theorem fo26_4 : fieldOff Try.prog 26 4 = some 4 := by kernel_rfl
theorem fo26_5 : fieldOff Try.prog 26 5 = some 5 := by kernel_rfl
theorem fo56_0 : fieldOff Try.prog 56 0 = some 0 := by kernel_rfl
theorem pl56_1 : placeOf Try.prog 56 1 = some (1, 1) := by kernel_rfl
theorem pl56_2 : placeOf Try.prog 56 2 = some (2, 1) := by kernel_rfl
theorem pl75_0 : placeOf Try.prog 75 0 = some (0, 1) := by kernel_rfl
theorem pl75_1 : placeOf Try.prog 75 1 = some (1, 1) := by kernel_rfl
theorem pl75_10 : placeOf Try.prog 75 10 = some (10, 1) := by kernel_rfl
theorem pl75_2 : placeOf Try.prog 75 2 = some (2, 1) := by kernel_rfl
theorem pl75_3 : placeOf Try.prog 75 3 = some (3, 1) := by kernel_rfl
theorem pl75_4 : placeOf Try.prog 75 4 = some (4, 1) := by kernel_rfl
theorem pl75_5 : placeOf Try.prog 75 5 = some (5, 1) := by kernel_rfl
theorem pl75_6 : placeOf Try.prog 75 6 = some (6, 1) := by kernel_rfl
theorem pl75_7 : placeOf Try.prog 75 7 = some (7, 1) := by kernel_rfl
theorem pl75_8 : placeOf Try.prog 75 8 = some (8, 1) := by kernel_rfl
theorem pl75_9 : placeOf Try.prog 75 9 = some (9, 1) := by kernel_rfl
theorem ri57 : rowInfo Try.prog 57 = some ([.pointer none], 8) := by kernel_rfl
theorem sc23 : scalarB Try.prog 23 = true := by kernel_rfl
theorem sc3 : scalarB Try.prog 3 = true := by kernel_rfl
theorem sc4 : scalarB Try.prog 4 = true := by kernel_rfl
theorem sc5 : scalarB Try.prog 5 = true := by kernel_rfl
theorem sc54 : scalarB Try.prog 54 = true := by kernel_rfl
theorem sz26_11 : sizeB Try.prog 26 11 = true := by kernel_rfl
theorem sz57_1 : sizeB Try.prog 57 1 = true := by kernel_rfl
theorem sz5_1 : sizeB Try.prog 5 1 = true := by kernel_rfl
theorem ze26 : zeroL Try.prog 26 = some [.int .i64 0, .bool false, .int .u8 0, .int .u32 0, .int .u32 0, .int .u8 0, .int .u8 0, .int .u8 0, .int .u8 0, .int .u8 0, .int .u8 0] := by kernel_rfl
theorem ze56 : zeroL Try.prog 56 = some [.slice none 0 0, .int .i64 0, .int .i64 0, .string ⟨#[]⟩] := by kernel_rfl
theorem ze57 : zeroL Try.prog 57 = some [.pointer none] := by kernel_rfl
theorem ze75 : zeroL Try.prog 75 = some [.int .i64 0, .bool false, .int .u8 0, .int .u32 0, .int .u32 0, .int .u8 0, .int .u8 0, .int .u8 0, .int .u8 0, .int .u8 0, .int .u8 0, .int .i64 0, .int .i64 0, .string ⟨#[]⟩] := by kernel_rfl

end C2
open C2

set_option maxRecDepth 100000 in
theorem c_mbrEntry (w : World) (q : MP) : Calls Try.prog 26 #[.agg q.cells.toArray] w (Ret fun v w' => ∃ p, v = .pointer (some ⟨p, 0, none⟩) ∧ w.heap.size ≤ p ∧ w'.heap[p]? = some (.cells (entCells q).toArray 75 (0, 0)) ∧ Fr [] w w') := by
  refine enter (fun ρ => ρ 2) Try.func26 rfl rfl rfl (res1 rfl) ?_
  have H := SH.nil w
  refine sq ?_
  refine rg ?_
  refine bx (v := .agg _) H rfl rfl rfl ?_
  clear H; intro b1 w1 hb1 H _
  refine asg (v := .pointer _) rfl rfl ?_
  refine nl ?_
  refine then_n ?_
  refine sq ?_
  refine rg ?_
  refine fa rfl fo26_0 rfl ?_
  first | refine ld H rfl sc3 rfl rfl ?_ | refine lc rfl (by first | assumption | exact H.fr.cell (by assumption) (by simp)) sc3 rfl ?_ | refine ld H rfl sc3 (by assumption) rfl ?_
  refine fa rfl fo26_1 rfl ?_
  first | refine ld H rfl sc4 rfl rfl ?_ | refine lc rfl (by first | assumption | exact H.fr.cell (by assumption) (by simp)) sc4 rfl ?_ | refine ld H rfl sc4 (by assumption) rfl ?_
  refine fa rfl fo26_2 rfl ?_
  first | (refine ldb H rfl sc5 (by omega) rfl ?_; intro hu1) | refine ld H rfl sc5 rfl rfl ?_ | refine lc rfl (by assumption) sc5 rfl ?_
  refine fa rfl fo26_3 rfl ?_
  first | refine ld H rfl sc23 rfl rfl ?_ | refine lc rfl (by first | assumption | exact H.fr.cell (by assumption) (by simp)) sc23 rfl ?_ | refine ld H rfl sc23 (by assumption) rfl ?_
  refine fa rfl fo26_4 rfl ?_
  first | refine ld H rfl sc23 rfl rfl ?_ | refine lc rfl (by first | assumption | exact H.fr.cell (by assumption) (by simp)) sc23 rfl ?_ | refine ld H rfl sc23 (by assumption) rfl ?_
  refine fa rfl fo26_5 rfl ?_
  first | refine iy rfl rfl Try.underlying24 sz5_1 (by omega) rfl ?_ | refine iyB rfl rfl Try.underlying24 sz5_1 (by omega) rfl ?_
  first | (refine ldb H rfl sc5 (by omega) rfl ?_; intro hu2) | refine ld H rfl sc5 rfl rfl ?_ | refine lc rfl (by assumption) sc5 rfl ?_
  refine fa rfl fo26_5 rfl ?_
  first | refine iy rfl rfl Try.underlying24 sz5_1 (by omega) rfl ?_ | refine iyB rfl rfl Try.underlying24 sz5_1 (by omega) rfl ?_
  first | (refine ldb H rfl sc5 (by omega) rfl ?_; intro hu3) | refine ld H rfl sc5 rfl rfl ?_ | refine lc rfl (by assumption) sc5 rfl ?_
  refine fa rfl fo26_5 rfl ?_
  first | refine iy rfl rfl Try.underlying24 sz5_1 (by omega) rfl ?_ | refine iyB rfl rfl Try.underlying24 sz5_1 (by omega) rfl ?_
  first | (refine ldb H rfl sc5 (by omega) rfl ?_; intro hu4) | refine ld H rfl sc5 rfl rfl ?_ | refine lc rfl (by assumption) sc5 rfl ?_
  refine fa rfl fo26_5 rfl ?_
  first | refine iy rfl rfl Try.underlying24 sz5_1 (by omega) rfl ?_ | refine iyB rfl rfl Try.underlying24 sz5_1 (by omega) rfl ?_
  first | (refine ldb H rfl sc5 (by omega) rfl ?_; intro hu5) | refine ld H rfl sc5 rfl rfl ?_ | refine lc rfl (by assumption) sc5 rfl ?_
  refine fa rfl fo26_5 rfl ?_
  first | refine iy rfl rfl Try.underlying24 sz5_1 (by omega) rfl ?_ | refine iyB rfl rfl Try.underlying24 sz5_1 (by omega) rfl ?_
  first | (refine ldb H rfl sc5 (by omega) rfl ?_; intro hu6) | refine ld H rfl sc5 rfl rfl ?_ | refine lc rfl (by assumption) sc5 rfl ?_
  refine fa rfl fo26_5 rfl ?_
  first | refine iy rfl rfl Try.underlying24 sz5_1 (by omega) rfl ?_ | refine iyB rfl rfl Try.underlying24 sz5_1 (by omega) rfl ?_
  first | (refine ldb H rfl sc5 (by omega) rfl ?_; intro hu7) | refine ld H rfl sc5 rfl rfl ?_ | refine lc rfl (by assumption) sc5 rfl ?_
  refine bu (out := ?o8) ze75 bo75 ?f8 rfl ?_
  case f8 =>
    refine FL.one (v := .int .i64 _) rfl pl75_0 rfl (by first | decide | simp) ?_
    refine FL.one (v := .bool _) rfl pl75_1 rfl (by first | decide | simp) ?_
    refine FL.one (v := .int .u8 _) rfl pl75_2 rfl (by first | decide | simp) ?_
    refine FL.one (v := .int .u32 _) rfl pl75_3 rfl (by first | decide | simp) ?_
    refine FL.one (v := .int .u32 _) rfl pl75_4 rfl (by first | decide | simp) ?_
    refine FL.one (v := .int .u8 _) rfl pl75_5 rfl (by first | decide | simp) ?_
    refine FL.one (v := .int .u8 _) rfl pl75_6 rfl (by first | decide | simp) ?_
    refine FL.one (v := .int .u8 _) rfl pl75_7 rfl (by first | decide | simp) ?_
    refine FL.one (v := .int .u8 _) rfl pl75_8 rfl (by first | decide | simp) ?_
    refine FL.one (v := .int .u8 _) rfl pl75_9 rfl (by first | decide | simp) ?_
    refine FL.one (v := .int .u8 _) rfl pl75_10 rfl (by first | decide | simp) ?_
    exact FL.nil
  refine bx (v := .agg _) H rfl rfl rfl ?_
  clear H; intro b2 w2 hb2 H _
  refine asg (v := .pointer _) rfl rfl ?_
  refine nl ?_
  refine then_n ?_
  refine rt ?_
  refine fin_r ?_
  exact ⟨_, rfl, H.ge, H.get _ (.head _), H.fr⟩

set_option maxRecDepth 100000 in
theorem c_mbrTable (w : World) (B : Option Addr) (m c : Nat) (qs : List MP) (hq : RM w B m c qs) (hm : m ≤ 1000) : Calls Try.prog 20 #[.slice B m c, .int .i64 512] w (Ret fun v w' => ∃ t A cap l, v = .pointer (some ⟨t, 0, none⟩) ∧ TabAt 56 75 w' t A m cap l qs ∧ (m = 0 → A = none) ∧ w.heap.size ≤ t ∧ Fr [] w w') := by
  refine enter (fun ρ => ρ 4) Try.func20 rfl rfl rfl (res1 rfl) ?_
  have H := SH.nil w
  have hql := hq.len
  refine sq ?_
  refine rg ?_
  refine asg (v := .pointer _) rfl rfl ?_
  refine nl ?_
  refine then_n ?_
  refine sq ?_
  refine rg ?_
  refine mv (v := .int .i64 _) rfl rfl ?_
  refine mv (v := .int .i64 _) rfl rfl ?_
  refine bu (out := ?o1) ze56 bo56 ?f1 rfl ?_
  case f1 =>
    refine FL.one (v := .int .i64 _) rfl pl56_1 rfl (by first | decide | simp) ?_
    refine FL.one (v := .int .i64 _) rfl pl56_2 rfl (by first | decide | simp) ?_
    exact FL.nil
  refine bx (v := .agg _) H rfl rfl rfl ?_
  clear H; intro b1 w1 hb1 H _
  refine asg (v := .pointer _) rfl rfl ?_
  refine nl ?_
  refine then_n ?_
  refine sq ?_
  refine sq ?_
  refine rg ?_
  refine mv (v := .slice _ _ _) rfl rfl ?_
  refine lnS rfl Try.underlying22 rfl ?_
  refine mv (v := .int .i64 _) rfl rfl ?_
  refine nl ?_
  refine then_n ?_
  refine bk ?_
  refine lpM (α := Nat × Option Addr × Nat × PL) [7, 14, 15, 16, 17, 18, 19, 20, 21, 22, 23, 24, 25, 26, 27, 28, 29] (fun (i, A, cap, l) => [(14, .int .i64 (i : Int))]) (fun (i, A, cap, l) w' => i ≤ m ∧ l.length = i ∧ rowQ qs l ∧ (i = 0 → A = none) ∧ OR 57 1 w [] w' (⟨b1, .cells [.slice A i cap, .int .i64 512, .int .i64 512, .string (str [])].toArray 56 (0, 0), true⟩ :: ents 75 l) A i cap (ptrs l)) (fun (i, A, cap, l) => m - i) (0, none, 0, []) ?_ (fC (by first | rfl | exact congrArg (Value.int _) (by first | omega | assumption | (symm; assumption) | (simp; done) | (simp; omega)) | exact congrArg (fun n => Value.slice _ n _) (by first | simp; done | simp; omega)) (fN _)) ?_   -- loop 1
  · exact ⟨by omega, rfl, rowQ_nil _, fun _ => rfl, OR.nil H⟩
  · rintro ⟨i, A, cap, l⟩ ρx w2 ⟨hi, hll, hro, hA0, O⟩
    have H := O.sh
    refine sq ?_
    refine rg ?_
    refine lss rfl rfl rfl ?_
    refine nl ?_
    refine then_n ?_
    refine sq ?_
    first | refine cd rfl (fun hc1 => ?_) (fun hc1 => ?_) | refine cn rfl (fun hc1 => ?_) (fun hc1 => ?_)   -- test 1
    · obtain ⟨q, hqi⟩ : ∃ q, qs[i]? = some q := ⟨_, List.getElem?_eq_getElem (by omega)⟩
      obtain ⟨ad, rfl⟩ : ∃ ad, B = some ad := by
        cases B with
        | none => have := hq.nil rfl; omega
        | some ad => exact ⟨ad, rfl⟩
      refine sk ?_
      refine then_n ?_
      refine sq ?_
      refine bk ?_
      refine sq ?_
      refine rg ?_
      refine iBN (ad.add (i * 11)) rfl rfl Try.underlying22 sz26_11 (by omega) (by simp) rfl ?_
      refine lw (vs := q.cells) rfl ag26_11 rfl (fun j v h => H.fr.cell (hq.elem hqi j v h) (by simp)) rfl ?_
      refine al H ze26 rfl ?_
      intro b2 w3 hb2 H1 F; replace O := O.new F hb2 H1.look; clear H H1 F; have H := O.sh
      refine sa (cs' := q.cells) H rfl rfl ag26_11 rfl rfl (by decide) (by omega) rfl ?_
      intro w35 H1 F; replace O := O.put F H1.look; clear H H1 F; have H := O.sh
      refine nl ?_
      refine then_n ?_
      refine dr (by kernel_rfl) ?_   -- region 5
      have H := H.drew
      replace O := O.drew
      refine hold (fun w' => SH w [] w' [⟨b2, .cells q.cells.toArray 26 (0, 0), true⟩, ⟨b1, .cells [.slice A i cap, .int .i64 512, .int .i64 512, .string (str [])].toArray 56 (0, 0), true⟩]) [11] ?_
      refine tk (i := 0) rfl (by kernel_rfl) rfl (H.sub (by repeat (first | exact List.Sublist.refl _ | exact List.nil_sublist _ | apply List.Sublist.cons_cons | apply List.Sublist.cons))) (fun w' H => r_mv (v := .pointer _) rfl) ?_
      refine tk (i := 1) rfl (by kernel_rfl) rfl (H.sub (by repeat (first | exact List.Sublist.refl _ | exact List.nil_sublist _ | apply List.Sublist.cons_cons | apply List.Sublist.cons))) (fun w' H => r_mv (v := .pointer _) rfl) ?_
      first | refine tk (i := 2) rfl (by kernel_rfl) rfl (H.sub (by repeat (first | exact List.Sublist.refl _ | exact List.nil_sublist _ | apply List.Sublist.cons_cons | apply List.Sublist.cons))) (fun w' H => r_nc rfl) ?_ | refine tk (i := 2) rfl (by kernel_rfl) rfl (H.sub (by repeat (first | exact List.Sublist.refl _ | exact List.nil_sublist _ | apply List.Sublist.cons_cons | apply List.Sublist.cons))) (fun w' H => r_nci rfl) ?_
      first | refine tk (i := 3) rfl (by kernel_rfl) rfl (H.sub (by repeat (first | exact List.Sublist.refl _ | exact List.nil_sublist _ | apply List.Sublist.cons_cons | apply List.Sublist.cons))) (fun w' H => r_fa rfl fo56_0) ?_ | refine tk (i := 3) rfl (by kernel_rfl) rfl (H.sub (by repeat (first | exact List.Sublist.refl _ | exact List.nil_sublist _ | apply List.Sublist.cons_cons | apply List.Sublist.cons))) (fun w' H => r_faG rfl fo56_0) ?_
      first | refine tk (i := 4) rfl (by kernel_rfl) rfl (H.sub (by repeat (first | exact List.Sublist.refl _ | exact List.nil_sublist _ | apply List.Sublist.cons_cons | apply List.Sublist.cons))) (fun w' H => r_ld H rfl sc54 rfl) ?_ | refine tk (i := 4) rfl (by kernel_rfl) rfl (H.sub (by repeat (first | exact List.Sublist.refl _ | exact List.nil_sublist _ | apply List.Sublist.cons_cons | apply List.Sublist.cons))) (fun w' H => r_lc rfl (by first | assumption | exact H.fr.cell (by assumption) (by simp)) sc54) ?_ | refine tk (i := 4) rfl (by kernel_rfl) rfl (H.sub (by repeat (first | exact List.Sublist.refl _ | exact List.nil_sublist _ | apply List.Sublist.cons_cons | apply List.Sublist.cons))) (fun w' H => r_ld H rfl sc54 (by assumption)) ?_
      refine tk (i := 5) rfl (by kernel_rfl) rfl (H.sub (by repeat (first | exact List.Sublist.refl _ | exact List.nil_sublist _ | apply List.Sublist.cons_cons | apply List.Sublist.cons))) (fun w' H => r_la (vs := q.cells) H rfl ag26_11 rfl rfl) ?_
      refine fk (i := 6) (by kernel_rfl) rfl rfl rfl ?_
      refine cl ca26 (c_mbrEntry _ q) rfl ?_
      rintro _ w4 ⟨b3, rfl, hb3, ho3, F⟩
      replace H := H.new F hb3 ho3; replace O := O.new F hb3 ho3; clear F ho3
      refine nl ?_
      refine then_n ?_
      refine ⟨H.sub (by repeat (first | exact List.Sublist.refl _ | exact List.nil_sublist _ | apply List.Sublist.cons_cons | apply List.Sublist.cons)), ?_⟩
      refine fk (i := 7) (by kernel_rfl) rfl rfl rfl ?_
      refine bsl (sz := 1) (out := ?o2) H Try.underlying54 ze57 sz57_1 (by decide) ?f2 rfl ?_
      case f2 =>
        refine FS.one (v := .pointer _) rfl rfl rfl (by first | decide | simp) ?_
        exact FS.nil
      intro b4 w5 hb4 H1 F; replace O := O.new F hb4 H1.look; clear H H1 F; have H := O.sh
      refine nl ?_
      refine then_n ?_
      refine ⟨H.sub (by repeat (first | exact List.Sublist.refl _ | exact List.nil_sublist _ | apply List.Sublist.cons_cons | apply List.Sublist.cons)), ?_⟩
      refine fk (i := 8) (by kernel_rfl) rfl rfl rfl ?_
      refine apO (zs := [.pointer none]) [.pointer (some ⟨_, 0, none⟩)] O rfl rfl Try.underlying54 ri57 rfl (cells_look H.look) (by simp [Value.oneCell']) (by simp) (by omega) (by unfold maxLen; omega) rfl ?_
      clear O H; intro A9 cp9 w6 O
      have H := O.sh
      refine nl ?_
      refine then_n ?_
      refine ⟨H.sub (by repeat (first | exact List.Sublist.refl _ | exact List.nil_sublist _ | apply List.Sublist.cons_cons | apply List.Sublist.cons)), ?_⟩
      refine fk (i := 9) (by kernel_rfl) rfl rfl rfl ?_
      first | refine nc rfl rfl ?_ | refine nci rfl rfl ?_
      refine nl ?_
      refine then_n ?_
      refine ⟨H.sub (by repeat (first | exact List.Sublist.refl _ | exact List.nil_sublist _ | apply List.Sublist.cons_cons | apply List.Sublist.cons)), ?_⟩
      first | refine tk (i := 10) rfl (by kernel_rfl) rfl (H.sub (by repeat (first | exact List.Sublist.refl _ | exact List.nil_sublist _ | apply List.Sublist.cons_cons | apply List.Sublist.cons))) (fun w' H => r_fa rfl fo56_0) ?_ | refine tk (i := 10) rfl (by kernel_rfl) rfl (H.sub (by repeat (first | exact List.Sublist.refl _ | exact List.nil_sublist _ | apply List.Sublist.cons_cons | apply List.Sublist.cons))) (fun w' H => r_faG rfl fo56_0) ?_
      refine fb (i := 11) (by kernel_rfl) rfl rfl rfl ?_
      refine st (v := .slice _ _ _) H rfl rfl sc54 rfl (by first | decide | (simp only [List.length_set, List.length_cons, List.length_nil, List.length_replicate, List.length_append, Bs_length]; omega) | omega) (by omega) ?_
      intro w7 H1 F; replace O := O.put F H1.look; clear H H1 F; have H := O.sh
      refine nl ?_
      refine then_n ?_
      refine dn (by kernel_rfl) ?_
      refine in_n ?_
      refine then_n ?_
      refine rg ?_
      refine add rfl rfl (by first | exact w_i64 (by omega) | exact w_i64 (rng_i64 _) | rfl) rfl ?_
      refine mv (v := .int .i64 _) rfl rfl ?_
      refine nl ?_
      refine loop_n ?_
      exact ⟨(i + 1, A9, cp9, l ++ [(_, entCells q)]), (by (try dsimp only); omega), ⟨by omega, by simp [hll], rowQ_snoc hro (by rw [hll]; exact hqi), fun h => by omega, by rw [ptrs_snoc]; exact (O.sub (by repeat (first | exact List.Sublist.refl _ | exact List.nil_sublist _ | apply List.Sublist.cons_cons | apply List.Sublist.cons))).perm (perm_snoc1 _)⟩, (fC (by first | rfl | exact congrArg (Value.int _) (by first | omega | assumption | (symm; assumption) | (simp; done) | (simp; omega)) | exact congrArg (fun n => Value.slice _ n _) (by first | simp; done | simp; omega)) (fN _)), (by repeat (first | exact Agree.setL rfl Agree.mask | exact Agree.self _ _ | refine Agree.upd rfl ?_ | refine Agree.setL rfl ?_ | refine Agree.mask2 rfl ?_))⟩
    · refine ex ?_
      refine then_e ?_
      refine loop_e ?_
      refine in_hit rfl ?_
      refine then_n ?_
      refine sq ?_
      refine rg ?_
      refine mv (v := .pointer _) rfl rfl ?_
      refine asg (v := .pointer _) rfl rfl ?_
      refine nl ?_
      refine then_n ?_
      refine rt ?_
      refine fin_r ?_
      obtain rfl : i = m := by omega
      refine ⟨b1, A, cap, l, rfl, ⟨O.sh.look, ⟨hll, hql⟩, fun k x hx => O.cells _ _ (ptrs_get hx), fun k x hx => O.sh.ptr (fun e he => by simp [he]) hx, hro⟩, hA0, O.sh.ge, O.sh.fr⟩

end Go.Proofs.Ytdoiddkogigppaa.X
