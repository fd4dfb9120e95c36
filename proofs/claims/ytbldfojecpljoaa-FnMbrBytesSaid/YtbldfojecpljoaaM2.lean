/- Walks of functions, printed by a program of this claim. -/
import Derived.Test.YtbldfojecpljoaaM1
namespace Go.Proofs.Ytbldfojecpljoaa.X
set_option linter.unusedVariables false
set_option linter.unusedSimpArgs false
open Go Go.RowKit

namespace M2
theorem ag29_11 : aggB Try.prog 29 11 = true := by kernel_rfl
theorem bo31 : buildOK Try.prog 31 = true := by kernel_rfl
theorem ca15 : callable Try.prog 15 = true := by kernel_rfl
theorem ca16 : callable Try.prog 16 = true := by kernel_rfl
theorem ca17 : callable Try.prog 17 = true := by kernel_rfl
theorem ca37 : callable Try.prog 37 = true := by kernel_rfl
theorem fo29_1 : fieldOff Try.prog 29 1 = some 1 := by kernel_rfl
theorem fo29_2 : fieldOff Try.prog 29 2 = some 2 := by kernel_rfl
theorem fo29_3 : fieldOff Try.prog 29 3 = some 3 := by kernel_rfl
theorem fo29_4 : fieldOff Try.prog 29 4 = some 4 := by kernel_rfl
theorem mi5 : elemInfo Try.prog 5 = some (.int .u8 0, 1) := by kernel_rfl
theorem pl31_0 : placeOf Try.prog 31 0 = some (0, 11) := by kernel_rfl
theorem sc22 : scalarB Try.prog 22 = true := by kernel_rfl
theorem sc4 : scalarB Try.prog 4 = true := by kernel_rfl
theorem sc5 : scalarB Try.prog 5 = true := by kernel_rfl
theorem sz5_1 : sizeB Try.prog 5 1 = true := by kernel_rfl
theorem ze31 : zeroL Try.prog 31 = some [.int .i64 0, .bool false, .int .u8 0, .int .u32 0, .int .u32 0, .int .u8 0, .int .u8 0, .int .u8 0, .int .u8 0, .int .u8 0, .int .u8 0, .int .i64 0, .bool false, .int .u8 0, .int .u32 0, .int .u32 0, .int .u8 0, .int .u8 0, .int .u8 0, .int .u8 0, .int .u8 0, .int .u8 0, .int .i64 0, .bool false, .int .u8 0, .int .u32 0, .int .u32 0, .int .u8 0, .int .u8 0, .int .u8 0, .int .u8 0, .int .u8 0, .int .u8 0, .int .i64 0, .bool false, .int .u8 0, .int .u32 0, .int .u32 0, .int .u8 0, .int .u8 0, .int .u8 0, .int .u8 0, .int .u8 0, .int .u8 0] := by kernel_rfl

end M2
open M2

set_option maxRecDepth 100000 in
theorem c_mbrBytes (w : World) (b1 o1 c1 b2 o2 c2 : Nat) (T1 T2 : TypeId) (f1 f2 : Nat × Nat) (xs ys : List UInt8) (h1 : w.heap[b1]? = some (.cells (Bs xs).toArray T1 f1)) (h2 : w.heap[b2]? = some (.cells (Bs ys).toArray T2 f2)) (ho1 : o1 + 16 ≤ xs.length) (ho2 : o2 + 16 ≤ ys.length) (hc1 : 16 ≤ c1) (hc2 : 16 ≤ c2) : Calls Try.prog 16 #[.slice (some ⟨b1, o1, none⟩) 16 c1, .slice (some ⟨b2, o2, none⟩) 16 c2] w (Ret fun v w' => v = .bool (eqE xs ys o1 o2) ∧ Fr [] w w') := by
  refine enter (fun ρ => ρ 4) Try.func16 rfl rfl rfl (res1 rfl) ?_
  have H := SH.ro2 h1 h2
  refine sq ?_
  refine rg ?_
  refine asg (v := .bool _) rfl rfl ?_
  refine nl ?_
  refine then_n ?_
  refine sq ?_
  refine rg ?_
  refine mv (v := .slice _ _ _) rfl rfl ?_
  refine lnS rfl Try.underlying23 rfl ?_
  refine eql rfl rfl rfl ?_
  refine mv (v := .bool _) rfl rfl ?_
  first | refine spL (t := 8) (b := true) rfl ?_ | refine spT (t := 8) rfl (by decide) ?_   -- guard 1
  refine gy rfl ?_
  refine mv (v := .slice _ _ _) rfl rfl ?_
  refine gy rfl ?_
  refine lnS rfl Try.underlying23 rfl ?_
  refine gy rfl ?_
  refine eql rfl rfl rfl ?_
  refine pkT (v := .bool _) rfl rfl rfl ?_
  refine mv (v := .bool _) rfl rfl ?_
  first | refine spL (t := 13) (b := true) rfl ?_ | refine spT (t := 13) rfl (by decide) ?_   -- guard 2
  refine gy rfl ?_
  refine mv (v := .slice _ _ _) rfl rfl ?_
  refine gy rfl ?_
  refine mv (v := .slice _ _ _) rfl rfl ?_
  refine gy rfl ?_
  refine cl ca37 (c_partEq _ _ _ _ _ _ _ _ _ _ _ _ _ h1 h2 (by omega) (by omega) (by omega) (by omega)) rfl ?_
  rintro _ w1 ⟨rfl, F⟩
  replace H := H.keep F; clear F
  refine pkT (v := .bool _) rfl rfl rfl ?_
  refine asg (v := .bool _) rfl rfl ?_
  refine nl ?_
  refine then_n ?_
  refine rt ?_
  refine fin_r ?_
  exact ⟨rfl, H.fr⟩

set_option maxRecDepth 100000 in
theorem c_sameMbr (w : World) (p q : MP) : Calls Try.prog 17 #[.agg p.cells.toArray, .agg q.cells.toArray] w (Ret fun v w' => v = .bool (eqM p q) ∧ Fr [] w w') := by
  refine enter (fun ρ => ρ 4) Try.func17 rfl rfl rfl (res1 rfl) ?_
  have H := SH.nil w
  refine sq ?_
  refine rg ?_
  refine bx (v := .agg _) H rfl rfl rfl ?_
  clear H; intro b1 w1 hb1 H _
  refine bx (v := .agg _) H rfl rfl rfl ?_
  clear H; intro b2 w2 hb2 H _
  refine asg (v := .bool _) rfl rfl ?_
  refine nl ?_
  refine then_n ?_
  refine sq ?_
  refine rg ?_
  refine fa rfl fo29_1 rfl ?_
  first | refine ld H rfl sc4 rfl rfl ?_ | refine lc rfl (by assumption) sc4 rfl ?_
  refine fa rfl fo29_1 rfl ?_
  first | refine ld H rfl sc4 rfl rfl ?_ | refine lc rfl (by assumption) sc4 rfl ?_
  refine eqlB rfl rfl Try.underlying4 rfl ?_
  refine mv (v := .bool _) rfl rfl ?_
  first | refine spd (t := 10) rfl (fun hg1 => ?_) (fun hg1 => ?_) | refine sp (t := 10) rfl (fun hg1 => ?_) (fun hg1 => ?_)   -- guard 1
  · refine gy rfl ?_
    refine fa rfl fo29_2 rfl ?_
    refine gy rfl ?_
    first | (refine ldb H rfl sc5 (by omega) rfl ?_; intro hu1) | refine ld H rfl sc5 rfl rfl ?_ | refine lc rfl (by assumption) sc5 rfl ?_
    refine gy rfl ?_
    refine fa rfl fo29_2 rfl ?_
    refine gy rfl ?_
    first | (refine ldb H rfl sc5 (by omega) rfl ?_; intro hu2) | refine ld H rfl sc5 rfl rfl ?_ | refine lc rfl (by assumption) sc5 rfl ?_
    refine gy rfl ?_
    refine eql rfl rfl rfl ?_
    refine pkT (v := .bool _) rfl rfl rfl ?_
    refine mv (v := .bool _) rfl rfl ?_
    first | refine spd (t := 17) rfl (fun hg2 => ?_) (fun hg2 => ?_) | refine sp (t := 17) rfl (fun hg2 => ?_) (fun hg2 => ?_)   -- guard 2
    · refine gy rfl ?_
      refine fa rfl fo29_3 rfl ?_
      refine gy rfl ?_
      first | refine ld H rfl sc22 rfl rfl ?_ | refine lc rfl (by assumption) sc22 rfl ?_
      refine gy rfl ?_
      refine fa rfl fo29_3 rfl ?_
      refine gy rfl ?_
      first | refine ld H rfl sc22 rfl rfl ?_ | refine lc rfl (by assumption) sc22 rfl ?_
      refine gy rfl ?_
      refine eql rfl rfl rfl ?_
      refine pkT (v := .bool _) rfl rfl rfl ?_
      refine mv (v := .bool _) rfl rfl ?_
      first | refine spd (t := 24) rfl (fun hg3 => ?_) (fun hg3 => ?_) | refine sp (t := 24) rfl (fun hg3 => ?_) (fun hg3 => ?_)   -- guard 3
      · refine gy rfl ?_
        refine fa rfl fo29_4 rfl ?_
        refine gy rfl ?_
        first | refine ld H rfl sc22 rfl rfl ?_ | refine lc rfl (by assumption) sc22 rfl ?_
        refine gy rfl ?_
        refine fa rfl fo29_4 rfl ?_
        refine gy rfl ?_
        first | refine ld H rfl sc22 rfl rfl ?_ | refine lc rfl (by assumption) sc22 rfl ?_
        refine gy rfl ?_
        refine eql rfl rfl rfl ?_
        refine pkT (v := .bool _) rfl rfl rfl ?_
        refine asg (v := .bool _) rfl rfl ?_
        refine nl ?_
        refine then_n ?_
        refine rt ?_
        refine fin_r ?_
        exact ⟨congrArg Value.bool (decide_eq_decide.2 ⟨fun h => ⟨hg1, hg2, hg3, h⟩, fun h => h.2.2.2⟩), H.fr⟩
      · refine gn rfl rfl ?_
        refine gn rfl rfl ?_
        refine gn rfl rfl ?_
        refine gn rfl rfl ?_
        refine gn rfl rfl ?_
        refine pkF (v := .bool _) rfl rfl rfl ?_
        refine asg (v := .bool _) rfl rfl ?_
        refine nl ?_
        refine then_n ?_
        refine rt ?_
        refine fin_r ?_
        exact ⟨congrArg Value.bool (decide_eq_false (fun h => hg3 h.2.2.1)).symm, H.fr⟩
    · refine gn rfl rfl ?_
      refine gn rfl rfl ?_
      refine gn rfl rfl ?_
      refine gn rfl rfl ?_
      refine gn rfl rfl ?_
      refine pkF (v := .bool _) rfl rfl rfl ?_
      refine mv (v := .bool _) rfl rfl ?_
      refine gn rfl rfl ?_
      refine gn rfl rfl ?_
      refine gn rfl rfl ?_
      refine gn rfl rfl ?_
      refine gn rfl rfl ?_
      refine pkF (v := .bool _) rfl rfl rfl ?_
      refine asg (v := .bool _) rfl rfl ?_
      refine nl ?_
      refine then_n ?_
      refine rt ?_
      refine fin_r ?_
      exact ⟨congrArg Value.bool (decide_eq_false (fun h => hg2 h.2.1)).symm, H.fr⟩
  · refine gn rfl rfl ?_
    refine gn rfl rfl ?_
    refine gn rfl rfl ?_
    refine gn rfl rfl ?_
    refine gn rfl rfl ?_
    refine pkF (v := .bool _) rfl rfl rfl ?_
    refine mv (v := .bool _) rfl rfl ?_
    refine gn rfl rfl ?_
    refine gn rfl rfl ?_
    refine gn rfl rfl ?_
    refine gn rfl rfl ?_
    refine gn rfl rfl ?_
    refine pkF (v := .bool _) rfl rfl rfl ?_
    refine mv (v := .bool _) rfl rfl ?_
    refine gn rfl rfl ?_
    refine gn rfl rfl ?_
    refine gn rfl rfl ?_
    refine gn rfl rfl ?_
    refine gn rfl rfl ?_
    refine pkF (v := .bool _) rfl rfl rfl ?_
    refine asg (v := .bool _) rfl rfl ?_
    refine nl ?_
    refine then_n ?_
    refine rt ?_
    refine fin_r ?_
    exact ⟨congrArg Value.bool (decide_eq_false (fun h => hg1 h.1)).symm, H.fr⟩

set_option maxRecDepth 100000 in
theorem c_FnMbrBytes (w : World) (p q : MP) (hp : p.ok) (hq : q.ok) : Calls Try.prog 4 #[.agg p.cells.toArray, .agg q.cells.toArray] w (Ret fun v w' => v = .bool true ∧ Fr [] w w') := by
  refine enter (fun ρ => ρ 4) Try.func4 rfl rfl rfl (res1 rfl) ?_
  have H := SH.nil w
  refine sq ?_
  refine rg ?_
  refine bx (v := .agg _) H rfl rfl rfl ?_
  clear H; intro b1 w1 hb1 H _
  refine bx (v := .agg _) H rfl rfl rfl ?_
  clear H; intro b2 w2 hb2 H _
  refine asg (v := .bool _) rfl rfl ?_
  refine nl ?_
  refine then_n ?_
  refine ctM (α := Nat × Nat) [5, 6, 7, 8] (fun (x, y) => [(5, .slice (some ⟨x, 0, none⟩) 512 512), (6, .slice (some ⟨y, 0, none⟩) 512 512)]) (fun (x, y) w' => SH w [] w' [⟨x, .cells (Bs (List.replicate 512 0)).toArray 5 (0, 0), true⟩, ⟨y, .cells (Bs (List.replicate 512 0)).toArray 5 (0, 0), true⟩, ⟨b2, .cells q.cells.toArray 29 (0, 0), true⟩, ⟨b1, .cells p.cells.toArray 29 (0, 0), true⟩]) ?_ ?_   -- cut
  · refine dr (by kernel_rfl) ?_   -- region 1
    have H := H.drew
    refine twoN (i := 0) (j := 1) (by kernel_rfl) rfl rfl rfl rfl ?_ ?_
    · refine mkB H rfl rfl Try.underlying23 mi5 (by omega) (by omega) (by omega) (by omega) rfl ?_
      clear H; intro b3 w3 hb3 H _
      refine nl ?_
      refine then_n ?_
      refine holdH H [] ?_
      refine tk (i := 2) rfl (by kernel_rfl) rfl H (fun w' H => r_asg (v := .slice _ _ _) rfl) ?_
      refine fk (i := 1) (by kernel_rfl) rfl rfl rfl ?_
      refine mkB H rfl rfl Try.underlying23 mi5 (by omega) (by omega) (by omega) (by omega) rfl ?_
      clear H; intro b4 w4 hb4 H _
      refine nl ?_
      refine then_n ?_
      refine ⟨H.drop, ?_⟩
      refine tk (i := 3) rfl (by kernel_rfl) rfl H.drop (fun w' H => r_asg (v := .slice _ _ _) rfl) ?_
      refine da (by kernel_rfl) ?_
      refine then_n ?_
      exact ⟨(b3, b4), H.swap, (fC (by first | rfl | exact congrArg (Value.int _) (by first | omega | assumption | (symm; assumption))) (fC (by first | rfl | exact congrArg (Value.int _) (by first | omega | assumption | (symm; assumption))) (fN _))), (by repeat (first | exact Agree.setL rfl Agree.mask | exact Agree.self _ _ | refine Agree.upd rfl ?_ | refine Agree.setL rfl ?_ | refine Agree.mask2 rfl ?_))⟩
    · refine mkB H rfl rfl Try.underlying23 mi5 (by omega) (by omega) (by omega) (by omega) rfl ?_
      clear H; intro b5 w5 hb5 H _
      refine nl ?_
      refine then_n ?_
      refine fo (i := 0) (by kernel_rfl) rfl rfl ?_
      refine mkB H rfl rfl Try.underlying23 mi5 (by omega) (by omega) (by omega) (by omega) rfl ?_
      clear H; intro b6 w6 hb6 H _
      refine nl ?_
      refine then_n ?_
      refine holdH H [] ?_
      refine tk (i := 2) rfl (by kernel_rfl) rfl H (fun w' H => r_asg (v := .slice _ _ _) rfl) ?_
      refine tk (i := 3) rfl (by kernel_rfl) rfl H (fun w' H => r_asg (v := .slice _ _ _) rfl) ?_
      refine da (by kernel_rfl) ?_
      refine then_n ?_
      exact ⟨(b6, b5), H, (fC (by first | rfl | exact congrArg (Value.int _) (by first | omega | assumption | (symm; assumption))) (fC (by first | rfl | exact congrArg (Value.int _) (by first | omega | assumption | (symm; assumption))) (fN _))), (by repeat (first | exact Agree.setL rfl Agree.mask | exact Agree.self _ _ | refine Agree.upd rfl ?_ | refine Agree.setL rfl ?_ | refine Agree.mask2 rfl ?_))⟩
  · rintro ⟨x, y⟩ ρx w7 H
    refine sq ?_
    refine rg ?_
    refine mv (v := .slice _ _ _) rfl rfl ?_
    refine la H rfl ag29_11 rfl rfl rfl ?_
    refine bu (out := ?o1) ze31 bo31 ?f1 rfl ?_
    case f1 =>
      refine FL.agg rfl pl31_0 rfl (by decide) ?_
      exact FL.nil
    refine cl ca15 (c_mbrEncode _ _ _ _ _ _ [p, .zero, .zero, .zero] H.look (by simp) (by decide) (by decide) rfl (by simp [MP.zero_ok, hp])) rfl ?_
    rintro _ w8 ⟨rfl, hlen, F, hnew⟩
    replace H := H.put F hnew; clear F hnew
    simp only [List.length_replicate] at hlen
    have hlp := hlen
    refine nl ?_
    refine then_n ?_
    refine sq ?_
    refine rg ?_
    refine mv (v := .slice _ _ _) rfl rfl ?_
    refine la H rfl ag29_11 rfl rfl rfl ?_
    refine bu (out := ?o2) ze31 bo31 ?f2 rfl ?_
    case f2 =>
      refine FL.agg rfl pl31_0 rfl (by decide) ?_
      exact FL.nil
    refine cl ca15 (c_mbrEncode _ _ _ _ _ _ [q, .zero, .zero, .zero] H.look (by simp) (by decide) (by decide) rfl (by simp [MP.zero_ok, hq])) rfl ?_
    rintro _ w9 ⟨rfl, hlen, F, hnew⟩
    replace H := H.put F hnew; clear F hnew
    simp only [List.length_replicate] at hlen
    have hlq := hlen
    refine nl ?_
    refine then_n ?_
    refine sq ?_
    refine dr (by kernel_rfl) ?_   -- region 4
    have H := H.drew
    refine holdH H [] ?_
    refine tk (i := 0) rfl (by kernel_rfl) rfl H (fun w' H => r_mv (v := .slice _ _ _) rfl) ?_
    refine tk (i := 1) rfl (by kernel_rfl) rfl H (fun w' H => r_sllh rfl rfl rfl Try.underlying23 sz5_1 (by first | trivial | omega | (simp; omega))) ?_
    refine tk (i := 2) rfl (by kernel_rfl) rfl H (fun w' H => r_mv (v := .slice _ _ _) rfl) ?_
    refine tk (i := 3) rfl (by kernel_rfl) rfl H (fun w' H => r_sllh rfl rfl rfl Try.underlying23 sz5_1 (by first | trivial | omega | (simp; omega))) ?_
    refine tk (i := 5) rfl (by kernel_rfl) rfl H (fun w' H => r_la H rfl ag29_11 rfl rfl) ?_
    refine tk (i := 6) rfl (by kernel_rfl) rfl H (fun w' H => r_la H rfl ag29_11 rfl rfl) ?_
    refine fk (i := 4) (by kernel_rfl) rfl rfl rfl ?_
    refine cl ca16 (c_mbrBytes _ _ _ _ _ _ _ _ _ _ _ _ _ H.look H.look (by omega) (by omega) (by omega) (by omega)) rfl ?_
    rintro _ w10 ⟨rfl, F⟩
    replace H := H.keep F; clear F
    refine nl ?_
    refine then_n ?_
    refine ⟨H, ?_⟩
    refine fk (i := 7) (by kernel_rfl) rfl rfl rfl ?_
    refine cl ca17 (c_sameMbr _ _ _) rfl ?_
    rintro _ w11 ⟨rfl, F⟩
    replace H := H.keep F; clear F
    refine nl ?_
    refine then_n ?_
    refine ⟨H, ?_⟩
    refine tk (i := 8) rfl (by kernel_rfl) rfl H (fun w' H => r_eqlB rfl rfl Try.underlying4) ?_
    refine tk (i := 9) rfl (by kernel_rfl) rfl H (fun w' H => r_mv (v := .bool _) rfl) ?_
    first | refine spad (t := 26) rfl (fun hg1 => ?_) (fun hg1 => ?_) | refine spa (t := 26) rfl (fun hg1 => ?_) (fun hg1 => ?_)   -- guard 1
    · refine tkg (i := 10) rfl (by kernel_rfl) rfl H rfl (fun w' H => r_mv (v := .slice _ _ _) rfl) ?_
      refine tkg (i := 11) rfl (by kernel_rfl) rfl H rfl (fun w' H => r_sllh rfl rfl rfl Try.underlying23 sz5_1 (by first | trivial | omega | (simp; omega))) ?_
      refine tkg (i := 12) rfl (by kernel_rfl) rfl H rfl (fun w' H => r_mv (v := .slice _ _ _) rfl) ?_
      refine tkg (i := 13) rfl (by kernel_rfl) rfl H rfl (fun w' H => r_sllh rfl rfl rfl Try.underlying23 sz5_1 (by first | trivial | omega | (simp; omega))) ?_
      refine fk (i := 14) (by kernel_rfl) rfl rfl rfl ?_
      refine gy rfl ?_
      refine cl ca16 (c_mbrBytes _ _ _ _ _ _ _ _ _ _ _ _ _ H.look H.look (by omega) (by omega) (by omega) (by omega)) rfl ?_
      rintro _ w12 ⟨rfl, F⟩
      replace H := H.keep F; clear F
      refine nl ?_
      refine then_n ?_
      refine ⟨H, ?_⟩
      refine tk (i := 15) rfl (by kernel_rfl) rfl H (fun w' H => r_pkT (v := .bool _) rfl rfl) ?_
      refine tk (i := 16) rfl (by kernel_rfl) rfl H (fun w' H => r_asg (v := .bool _) rfl) ?_
      refine da (by kernel_rfl) ?_
      refine then_n ?_
      refine rt ?_
      refine fin_r ?_
      exact ⟨congrArg Value.bool ((eqE_mbr (i := 0) (j := 0) rfl rfl (by simp) rfl rfl (by simp) hp hp).trans (eqM_self p)), H.fr⟩
    · refine tkn (i := 10) rfl (by kernel_rfl) rfl H rfl ?_
      refine tkn (i := 11) rfl (by kernel_rfl) rfl H rfl ?_
      refine tkn (i := 12) rfl (by kernel_rfl) rfl H rfl ?_
      refine tkn (i := 13) rfl (by kernel_rfl) rfl H rfl ?_
      refine tkn (i := 14) rfl (by kernel_rfl) rfl H rfl ?_
      refine tk (i := 15) rfl (by kernel_rfl) rfl H (fun w' H => r_pkF (v := .bool _) rfl rfl) ?_
      refine tk (i := 16) rfl (by kernel_rfl) rfl H (fun w' H => r_asg (v := .bool _) rfl) ?_
      refine da (by kernel_rfl) ?_
      refine then_n ?_
      refine rt ?_
      refine fin_r ?_
      exact absurd (eqE_mbr (i := 0) (j := 0) rfl rfl (by simp) rfl rfl (by simp) hp hq) hg1

theorem mbrBytesAt (w : World) (c0 c1 : List Value) (i0 : Is w shpMP c0) (i1 : Is w shpMP c1) : Calls Try.prog 4 #[.agg c0.toArray, .agg c1.toArray] w (Ret fun v w' => v = .bool true ∧ Fr [] w w') := by
  obtain ⟨p, rfl, hp⟩ := mp_of i0
  obtain ⟨q, rfl, hq⟩ := mp_of i1
  exact c_FnMbrBytes w p q hp hq

end Go.Proofs.Ytbldfojecpljoaa.X
