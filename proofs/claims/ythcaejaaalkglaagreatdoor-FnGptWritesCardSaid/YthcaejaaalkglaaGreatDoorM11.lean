/- Laws and walks on the road to the statement: P53. -/
import Derived.Test.YthcaejaaalkglaaGreatDoorM10
/- Walks of functions, printed by a program of this claim. -/
namespace Go.Proofs.YthcaejaaalkglaaGreatDoor.X
set_option linter.unusedVariables false
set_option linter.unusedSimpArgs false
open Go Go.RowKit

namespace PF
theorem ca14 : callable Tryz.prog 14 = true := by kernel_rfl
end PF
open PF

set_option maxRecDepth 100000 in
set_option maxHeartbeats 4000000 in
theorem c_FnGptWrites (w : World) (D : Option Addr) (m c : Nat) (sec : Int) (g : List UInt8) (pr rc : Bool) (ps : List GP) (hq : RG w D m c ps) (hU : Utf8W w) (x y : Int) (hx : 0 ≤ x ∧ x ≤ 65535) (hy : 0 ≤ y ∧ y ≤ 255) : Calls Tryz.prog 7 #[.agg (gtCells D m c sec g pr rc).toArray, .int .u16 x, .int .u8 y] w (Ret fun v w' => v = .bool true ∧ Fr [] w w') := by
  refine enter (fun ρ => ρ 6) Tryz.func7 rfl rfl rfl (res1 rfl) ?_
  have H := SH.nil w
  have hql := hq.len
  obtain ⟨n, hnn⟩ : ∃ n : Nat, (n : Int) = 80 + x % 200 := ⟨(80 + x % 200).toNat, by omega⟩
  have hn : 80 ≤ n ∧ n ≤ 1000000 := by omega
  have hnb : n ≤ 1000 := by omega
  refine sq ?_
  refine rg ?_
  refine bx (v := .agg _) H rfl rfl rfl ?_
  clear H; intro b1 w1 hb1 H _
  refine asg (v := .bool _) rfl rfl ?_
  refine nl ?_
  refine then_n ?_
  refine sq ?_
  refine sq ?_
  refine rg ?_
  first | refine la H rfl ag24_5 rfl rfl rfl ?_ | refine lw rfl ag24_5 rfl (by assumption) rfl ?_
  refine cl ca8 (c_fits5 _ D m c sec g pr rc ps (hq.keep H.fr)) rfl ?_
  rintro _ w2 ⟨g5, rfl, g5h, F⟩
  replace H := H.keep F; clear F
  refine unot rfl rfl ?_
  refine nl ?_
  refine then_n ?_
  first | refine cd rfl (fun hc1 => ?_) (fun hc1 => ?_) | refine cn rfl (fun hc1 => ?_) (fun hc1 => ?_)   -- test 1
  · refine sq ?_
    refine rg ?_
    refine asg (v := .bool _) rfl rfl ?_
    refine nl ?_
    refine then_n ?_
    refine rt ?_
    refine then_r ?_
    refine fin_r ?_
    exact ⟨rfl, H.fr⟩
  · have h5 := g5h (by simpa using hc1)
    refine sk ?_
    refine then_n ?_
    refine sq ?_
    refine rg ?_
    refine mv (v := .int .u16 _) rfl rfl ?_
    refine cvi rfl rfl Tryz.underlying3 (by first | exact w_i64 (by omega) | exact w_i64 (rng_i64 _) | rfl) rfl ?_
    refine rem rfl rfl (by omega) (by omega) rfl rfl ?_
    refine add (c := (n : Int)) rfl rfl (by rw [w_i64 (by omega)]; omega) rfl ?_
    refine asg (v := .int .i64 _) rfl rfl ?_
    refine nl ?_
    refine then_n ?_
    refine sq ?_
    refine rg ?_
    refine fa rfl fo24_1 rfl ?_
    refine st (v := .int .i64 _) H rfl rfl sc3 rfl (by show 0 + 1 < 5; decide) (by omega) ?_
    clear H; intro w91 H _
    refine fa rfl fo24_3 rfl ?_
    refine st (v := .bool _) H rfl rfl sc4 rfl (by show 0 + 3 < 5; decide) (by omega) ?_
    clear H; intro w92 H _
    refine nl ?_
    refine then_n ?_
    refine sq ?_
    refine sq ?_
    refine rg ?_
    replace H := sh_cells0 (cs' := gtCells D m c 512 g true rc) H rfl
    refine la (vs := gtCells D m c 512 g true rc) H rfl ag24_5 rfl rfl rfl ?_
    refine mv (v := .int .i64 _) rfl rfl ?_
    refine cvi rfl rfl Tryz.underlying28 (by first | exact w_u64 (by omega) | exact w_u64 (rng_u64 _) | exact m_u64 _) rfl ?_
    refine cl ca9 (c_good _ D m c g true rc ps (hq.keep H.fr) (hU.keep H.fr) n hn h5.2.2) rfl ?_
    rintro _ w3 ⟨gg, rfl, F, hgg⟩
    replace H := H.keep F; clear F
    refine unot rfl rfl ?_
    refine nl ?_
    refine then_n ?_
    first | refine cd rfl (fun hc2 => ?_) (fun hc2 => ?_) | refine cn rfl (fun hc2 => ?_) (fun hc2 => ?_)   -- test 2
    · refine sq ?_
      refine rg ?_
      refine cl ca10 (c_awake _) rfl ?_
      rintro _ w4 ⟨rfl, F⟩
      replace H := H.keep F; clear F
      refine asg (v := .bool _) rfl rfl ?_
      refine nl ?_
      refine then_n ?_
      refine rt ?_
      refine then_r ?_
      refine fin_r ?_
      exact ⟨rfl, H.fr⟩
    · obtain ⟨hgu, hm, hgl⟩ := hgg (by simpa using hc2)
      have hfs : ∀ p ∈ ps, p.fits := fun p hp => (hgl.1 p hp).fits
      have hn6 : n ≤ 1000000 := hn.2
      have hoks := hq.ok
      have hgo := ok_laid hgl hoks hn6
      have hft := h5.2.2
      refine sk ?_
      refine then_n ?_
      refine sq ?_
      refine rg ?_
      refine mv (v := .int .i64 _) rfl rfl ?_
      refine mv (v := .int .u8 _) rfl rfl ?_
      refine cl ca11 (c_partDisk _ n 512 y (by omega) (by omega) (by omega)) rfl ?_
      rintro _ w5 ⟨bd, ds, rfl, hdl, hb1, ho1, F⟩
      replace H := H.new F hb1 ho1; clear F ho1
      refine asg (v := .slice _ _ _) rfl rfl ?_
      refine nl ?_
      refine then_n ?_
      refine sq ?_
      refine dr (by kernel_rfl) ?_   -- region 8
      have H := H.drew
      refine hold (fun w' => SH w [] w' [⟨bd, .cells (Bs ds).toArray 5 (0, 0), true⟩, ⟨b1, .cells (gtCells D m c 512 g true rc).toArray 24 (0, 0), true⟩]) [4] ?_
      refine tk (i := 3) rfl (by kernel_rfl) rfl (H.subX) (fun w' H => r_la (vs := gtCells D m c 512 g true rc) H rfl ag24_5 rfl rfl) ?_
      refine manyA (R := [0, 1]) (by kernel_rfl) ?_ (by simp)
      simp only [List.forall_mem_cons]
      refine ⟨⟨_, rfl, rfl, ?_⟩, ⟨_, rfl, rfl, ?_⟩, by simp⟩
      · refine bsl (sz := 1) (out := ?o1) H Tryz.underlying30 ze5 sz5_1 (by decide) ?f1 rfl ?_
        case f1 =>
          exact FS.nil
        clear H; intro b2 w6 hb2 H F
        refine nl ?_
        refine then_n ?_
        refine ⟨H.subX, ?_⟩
        refine fk (i := 1) (by kernel_rfl) rfl rfl rfl ?_
        refine mv (v := .slice _ _ _) rfl rfl ?_
        refine nl ?_
        refine then_n ?_
        refine ⟨H.subX, ?_⟩
        refine fk (i := 2) (by kernel_rfl) rfl rfl rfl ?_
        refine apZ (bs := ds) H rfl rfl (RB.allm (b := bd) H hdl) Tryz.underlying30 ri5 (by omega) rfl ?_
        clear H; intro q9 c9 w7 hq9 hc9 hc9m _ H
        unfold maxLen at hc9m
        refine nl ?_
        refine then_n ?_
        refine ⟨H.subX, ?_⟩
        refine fb (i := 4) (by kernel_rfl) rfl rfl rfl ?_
        refine cl ca16 (c_gptWrite _ (some ⟨q9, 0, none⟩) c9 ds D m c g rc ps n ⟨hn.1, by omega⟩ hdl (hdl ▸ RB.pre (b := q9) H) (hq.keep H.fr) hft hgl hm hgu) rfl ?_
        rintro _ w8 ⟨bx, cm, DS, cs, rfl, hcm, OW⟩
        have hcmx := OW.cap_ge
        replace OW := OW.joinN H (by simp)
        simp only [List.cons_append, List.nil_append] at OW
        replace H := OW.sh
        have S := stands_wr (g := g) hn hdl hfs
        have hwl := S.len
        obtain ⟨hm11, hm12, hm13⟩ := S.mbr (Z := List.replicate (cm - n * 512) 0) hn
        obtain ⟨hm21, hm22, hm23⟩ := S.mbr2 (Z := List.replicate (cm - n * 512) 0) hn
        obtain ⟨y1, y2, y3, y4⟩ := S.gat (Z := List.replicate (cm - n * 512) 0) hn
        obtain ⟨x1, x2, x3, x4, x5⟩ := S.gat2 (Z := List.replicate (cm - n * 512) 0) hn
        refine nl ?_
        refine then_n ?_
        refine holdH H [] ?_
        refine tk (i := 5) rfl (by kernel_rfl) rfl (H.subX) (fun w' H => r_mv (v := .tuple _) rfl) ?_
        refine tk (i := 6) rfl (by kernel_rfl) rfl (H.subX) (fun w' H => r_xt rfl rfl) ?_
        refine tk (i := 7) rfl (by kernel_rfl) rfl (H.subX) (fun w' H => r_xt rfl rfl) ?_
        refine tk (i := 8) rfl (by kernel_rfl) rfl (H.subX) (fun w' H => r_xt rfl rfl) ?_
        refine tk (i := 9) rfl (by kernel_rfl) rfl (H.subX) (fun w' H => r_asg (v := .slice _ _ _) rfl) ?_
        refine tk (i := 10) rfl (by kernel_rfl) rfl (H.subX) (fun w' H => r_asg (v := .slice _ _ _) rfl) ?_
        refine tk (i := 11) rfl (by kernel_rfl) rfl (H.subX) (fun w' H => r_asg (v := .bool _) rfl) ?_
        refine da (by kernel_rfl) ?_
        refine then_n ?_
        refine sq ?_
        refine sq ?_
        refine dr (by kernel_rfl) ?_   -- region 9
        have H := H.drew
        refine holdH H [] ?_
        refine tk (i := 0) rfl (by kernel_rfl) rfl H (fun w' H => r_mv (v := .bool _) rfl) ?_
        refine tk (i := 1) rfl (by kernel_rfl) rfl H (fun w' H => r_unot rfl) ?_
        refine tk (i := 2) rfl (by kernel_rfl) rfl H (fun w' H => r_mv (v := .bool _) rfl) ?_
        first | refine spaL (t := 43) (b := false) rfl ?_ | refine spaF (t := 43) rfl rfl ?_   -- guard 1
        refine tkg (i := 3) rfl (by kernel_rfl) rfl H rfl (fun w' H => r_mv (v := .slice _ _ _) rfl) ?_
        refine tkg (i := 4) rfl (by kernel_rfl) rfl H rfl (fun w' H => r_lnS rfl Tryz.underlying30) ?_
        refine tkg (i := 5) rfl (by kernel_rfl) rfl H rfl (fun w' H => r_mv (v := .slice _ _ _) rfl) ?_
        refine tkg (i := 6) rfl (by kernel_rfl) rfl H rfl (fun w' H => r_lnS rfl Tryz.underlying30) ?_
        refine tkg (i := 7) rfl (by kernel_rfl) rfl H rfl (fun w' H => r_neq rfl rfl) ?_
        refine tk (i := 8) rfl (by kernel_rfl) rfl H (fun w' H => r_pkF (v := .bool _) rfl rfl) ?_
        refine tk (i := 9) rfl (by kernel_rfl) rfl H (fun w' H => r_mv (v := .bool _) rfl) ?_
        first | refine spaL (t := 50) (b := false) rfl ?_ | refine spaF (t := 50) rfl (by omega) ?_   -- guard 2
        refine tkg (i := 10) rfl (by kernel_rfl) rfl H rfl (fun w' H => r_mv (v := .slice _ _ _) rfl) ?_
        refine tkg (i := 11) rfl (by kernel_rfl) rfl H rfl (fun w' H => r_mv (v := .int .i64 _) rfl) ?_
        refine tkg (i := 12) rfl (by kernel_rfl) rfl H rfl (fun w' H => r_sub (c := ((n - 33 : Nat) : Int)) rfl rfl (by rw [w_i64 (by omega)]; omega)) ?_
        refine tkg (i := 13) rfl (by kernel_rfl) rfl H rfl (fun w' H => r_mul (c := (((n - 33) * 512 : Nat) : Int)) rfl rfl (by rw [w_i64 (by omega)]; omega)) ?_
        refine tkg (i := 14) rfl (by kernel_rfl) rfl H rfl (fun w' H => r_sllhN (17408) ((n - 33) * 512 - 17408) (cm - 17408) rfl rfl rfl Tryz.underlying30 sz5_1 (by omega) (by omega)) ?_
        refine tkg (i := 15) rfl (by kernel_rfl) rfl H rfl (fun w' H => r_cvBS rfl (by have e := RB.of (b := bx) (o := 17408) (n := (n - 33) * 512 - 17408) H (by rw [List.length_append]; omega); rw [wr_midZ hn.1 hdl hfs] at e; exact e) Tryz.underlying30 Tryz.underlying5 Tryz.underlying9) ?_
        refine tkg (i := 16) rfl (by kernel_rfl) rfl H rfl (fun w' H => r_mv (v := .slice _ _ _) rfl) ?_
        refine tkg (i := 17) rfl (by kernel_rfl) rfl H rfl (fun w' H => r_mv (v := .int .i64 _) rfl) ?_
        refine tkg (i := 18) rfl (by kernel_rfl) rfl H rfl (fun w' H => r_sub (c := ((n - 33 : Nat) : Int)) rfl rfl (by rw [w_i64 (by omega)]; omega)) ?_
        refine tkg (i := 19) rfl (by kernel_rfl) rfl H rfl (fun w' H => r_mul (c := (((n - 33) * 512 : Nat) : Int)) rfl rfl (by rw [w_i64 (by omega)]; omega)) ?_
        refine tkg (i := 20) rfl (by kernel_rfl) rfl H rfl (fun w' H => r_sllhN (17408) ((n - 33) * 512 - 17408) (n * 512 - 17408) rfl rfl rfl Tryz.underlying30 sz5_1 (by omega) (by omega)) ?_
        refine tkg (i := 21) rfl (by kernel_rfl) rfl H rfl (fun w' H => r_cvBS (bs := pcs ds 17408 ((n - 33) * 512 - 17408)) rfl (RB.of (b := bd) (o := 17408) (n := (n - 33) * 512 - 17408) H (by omega)) Tryz.underlying30 Tryz.underlying5 Tryz.underlying9) ?_
        refine tkg (i := 22) rfl (by kernel_rfl) rfl H rfl (fun w' H => r_neqT rfl rfl) ?_
        refine tk (i := 23) rfl (by kernel_rfl) rfl H (fun w' H => r_pkF (v := .bool _) rfl rfl) ?_
        refine da (by kernel_rfl) ?_
        refine then_n ?_
        first | refine cF rfl (by simp) ?_ | refine cbF rfl (by simp) ?_   -- test 3
        refine sk ?_
        refine then_n ?_
        refine sq ?_
        refine rg ?_
        refine mv (v := .slice _ _ _) rfl rfl ?_
        refine cl ca14 (c_gptDecode _ bx n cm 5 (cm, cm + 1) (wrB ds n g ps ++ List.replicate (cm - n * 512) 0) (H.look (b := bx)) hn (by rw [List.length_append]; omega) hcm hm11 hm12) rfl ?_
        rintro _ w9 ⟨D7, m7, cap7, s7, g7, X7, a7, rb7, b7, rfl, O7, hcs, hbb, hI⟩
        obtain ⟨h1, rfl, rfl⟩ := hcs.resolve_right (fun h => by rw [y1] at h; cases h.1)
        rw [y1] at hbb; subst hbb
        obtain ⟨k, hk, hkn, rfl, rfl, rfl, rfl⟩ := hI.1 y1
        obtain rfl : k = 2 := by rw [y2] at hk; omega
        rw [y3, used_laid hgl] at O7 ⊢
        rw [y4, hm13]
        replace O7 := O7.joinN H (by simp)
        simp only [List.append_nil] at O7
        replace H := O7.sh
        refine mv (v := .tuple _) rfl rfl ?_
        refine xt rfl rfl rfl ?_
        refine xt rfl rfl rfl ?_
        refine al H ze24 rfl ?_
        intro b3 w10 hb3 H1 F; replace O7 := O7.new F hb3 H1.look; clear H H1 F; have H := O7.sh
        refine sa (cs' := gtCells D7 (ps.map gpP).length cap7 512 (gT (gB g)) true false) H rfl rfl ag24_5 rfl rfl (by show 0 + 5 ≤ 5; decide) (by omega) rfl ?_
        intro w93 H1 F; replace O7 := O7.put F H1.look; clear H H1 F; have H := O7.sh
        refine asg (v := .bool _) rfl rfl ?_
        refine nl ?_
        refine then_n ?_
        refine sq ?_
        refine sq ?_
        refine rg ?_
        refine mv (v := .bool _) rfl rfl ?_
        refine unot rfl rfl ?_
        refine mv (v := .bool _) rfl rfl ?_
        first | refine spL (t := 72) (b := false) rfl ?_ | refine spF (t := 72) rfl rfl ?_   -- guard 3
        refine gy rfl ?_
        refine fa rfl fo24_4 rfl ?_
        refine gy rfl ?_
        first | refine ld H rfl sc4 rfl rfl ?_ | refine lc rfl (by first | assumption | exact H.fr.cell (by assumption) (by simp)) sc4 rfl ?_ | refine ld H rfl sc4 (by assumption) rfl ?_
        refine pkF (v := .bool _) rfl rfl rfl ?_
        refine mv (v := .bool _) rfl rfl ?_
        first | refine spL (t := 76) (b := false) rfl ?_ | refine spF (t := 76) rfl rfl ?_   -- guard 4
        refine gy rfl ?_
        refine fa rfl fo24_3 rfl ?_
        refine gy rfl ?_
        first | refine ld H rfl sc4 rfl rfl ?_ | refine lc rfl (by first | assumption | exact H.fr.cell (by assumption) (by simp)) sc4 rfl ?_ | refine ld H rfl sc4 (by assumption) rfl ?_
        refine gy rfl ?_
        refine unot rfl rfl ?_
        refine pkF (v := .bool _) rfl rfl rfl ?_
        refine mv (v := .bool _) rfl rfl ?_
        first | refine spL (t := 81) (b := false) rfl ?_ | refine spF (t := 81) rfl rfl ?_   -- guard 5
        refine gy rfl ?_
        refine la (vs := gtCells D7 (ps.map gpP).length cap7 512 (gT (gB g)) true false) H rfl ag24_5 rfl rfl rfl ?_
        refine gy rfl ?_
        refine la (vs := gtCells D m c 512 g true rc) H rfl ag24_5 rfl rfl rfl ?_
        refine gy rfl ?_
        refine cl ca15 (c_sameGpt _ D7 D _ cap7 m c (gT (gB g)) g _ _ _ _ (ps.map gpP) ps (RG.of_own O7 hgo) (hq.keep H.fr) (by simp; omega)) rfl ?_
        rintro _ w11 ⟨rfl, F⟩
        replace H := H.keep F; replace O7 := O7.keep F; clear F
        rw [same_laid hgu hgl hoks hn6]
        refine gy rfl ?_
        refine unot rfl rfl ?_
        refine pkF (v := .bool _) rfl rfl rfl ?_
        refine nl ?_
        refine then_n ?_
        first | refine cF rfl rfl ?_ | refine cbF rfl rfl ?_   -- test 4
        refine sk ?_
        refine then_n ?_
        refine sq ?_
        refine rg ?_
        refine mv (v := .slice _ _ _) rfl rfl ?_
        refine iBN ⟨bx, 512, none⟩ rfl rfl Tryz.underlying30 sz5_1 (by omega) rfl rfl ?_
        refine stb (o := 512) (a := 0) H rfl rfl sc5 (by decide) (by rw [List.length_append, hwl]; omega) (by omega) ?_
        clear H; intro w97 H _
        have e80 : b8 0 = 0 := by decide
        rw [e80] at H
        have hEl : n * 512 ≤ ((wrB ds n g ps ++ List.replicate (cm - n * 512) 0).set 512 0).length := by rw [List.length_set, List.length_append]; omega
        generalize (wrB ds n g ps ++ List.replicate (cm - n * 512) 0).set 512 0 = E at H hEl x1 x2 x3 x4 x5 hm21 hm22 hm23
        refine nl ?_
        refine then_n ?_
        refine sq ?_
        refine rg ?_
        refine mv (v := .slice _ _ _) rfl rfl ?_
        refine cl ca14 (c_gptDecode _ bx n cm 5 (cm, cm + 1) (E) (H.look (b := bx)) hn (by exact hEl) hcm hm21 hm22) rfl ?_
        rintro _ w12 ⟨D8, m7, cap8, s7, g7, X7, a7, rb7, b7, rfl, O8, hcs, hbb, hI⟩
        obtain ⟨h1, rfl, rfl⟩ := hcs.resolve_left (fun h => by rw [x1] at h; cases h.1)
        rw [x2] at hbb; subst hbb
        obtain ⟨k, hk, hkn, rfl, rfl, rfl, rfl⟩ := hI.1 x2
        obtain rfl : k = n - 33 := by rw [x3] at hk; omega
        rw [x4, used_laid hgl] at O8 ⊢
        rw [x5, hm23]
        replace O8 := O8.joinN H (by simp)
        simp only [List.append_nil] at O8
        replace H := O8.sh
        refine mv (v := .tuple _) rfl rfl ?_
        refine xt rfl rfl rfl ?_
        refine xt rfl rfl rfl ?_
        refine sa (cs' := gtCells D8 (ps.map gpP).length cap8 512 (gT (gB g)) true true) H rfl rfl ag24_5 rfl rfl (by show 0 + 5 ≤ 5; decide) (by omega) rfl ?_
        intro w94 H1 F; replace O8 := O8.put F H1.look; clear H H1 F; have H := O8.sh
        refine asg (v := .bool _) rfl rfl ?_
        refine nl ?_
        refine then_n ?_
        refine sq ?_
        refine rg ?_
        refine mv (v := .bool _) rfl rfl ?_
        refine mv (v := .bool _) rfl rfl ?_
        first | refine spL (t := 95) (b := true) rfl ?_ | refine spT (t := 95) rfl rfl ?_   -- guard 6
        refine gy rfl ?_
        refine fa rfl fo24_4 rfl ?_
        refine gy rfl ?_
        first | refine ld H rfl sc4 rfl rfl ?_ | refine lc rfl (by first | assumption | exact H.fr.cell (by assumption) (by simp)) sc4 rfl ?_ | refine ld H rfl sc4 (by assumption) rfl ?_
        refine pkT (v := .bool _) rfl rfl rfl ?_
        refine mv (v := .bool _) rfl rfl ?_
        first | refine spL (t := 99) (b := true) rfl ?_ | refine spT (t := 99) rfl rfl ?_   -- guard 7
        refine gy rfl ?_
        refine la (vs := gtCells D8 (ps.map gpP).length cap8 512 (gT (gB g)) true true) H rfl ag24_5 rfl rfl rfl ?_
        refine gy rfl ?_
        refine la (vs := gtCells D m c 512 g true rc) H rfl ag24_5 rfl rfl rfl ?_
        refine gy rfl ?_
        refine cl ca15 (c_sameGpt _ D8 D _ cap8 m c (gT (gB g)) g _ _ _ _ (ps.map gpP) ps (RG.of_own O8 hgo) (hq.keep H.fr) (by simp; omega)) rfl ?_
        rintro _ w13 ⟨rfl, F⟩
        replace H := H.keep F; replace O8 := O8.keep F; clear F
        rw [same_laid hgu hgl hoks hn6]
        refine pkT (v := .bool _) rfl rfl rfl ?_
        refine mv (v := .bool _) rfl rfl ?_
        first | refine spL (t := 104) (b := true) rfl ?_ | refine spT (t := 104) rfl rfl ?_   -- guard 8
        refine gy rfl ?_
        refine cl ca10 (c_awake _) rfl ?_
        rintro _ w14 ⟨rfl, F⟩
        replace H := H.keep F; replace O8 := O8.keep F; clear F
        refine pkT (v := .bool _) rfl rfl rfl ?_
        refine asg (v := .bool _) rfl rfl ?_
        refine nl ?_
        refine then_n ?_
        refine rt ?_
        refine fin_r ?_
        exact ⟨rfl, H.fr⟩
      · refine mv (v := .slice _ _ _) rfl rfl ?_
        refine nl ?_
        refine then_n ?_
        refine ⟨H.subX, ?_⟩
        refine fk (i := 0) (by kernel_rfl) rfl rfl rfl ?_
        refine bsl (sz := 1) (out := ?o2) H Tryz.underlying30 ze5 sz5_1 (by decide) ?f2 rfl ?_
        case f2 =>
          exact FS.nil
        clear H; intro b4 w15 hb4 H F
        refine nl ?_
        refine then_n ?_
        refine ⟨H.subX, ?_⟩
        refine fk (i := 2) (by kernel_rfl) rfl rfl rfl ?_
        refine apZ (bs := ds) H rfl rfl (RB.allm (b := bd) H hdl) Tryz.underlying30 ri5 (by omega) rfl ?_
        clear H; intro q9 c9 w16 hq9 hc9 hc9m _ H
        unfold maxLen at hc9m
        refine nl ?_
        refine then_n ?_
        refine ⟨H.subX, ?_⟩
        refine fb (i := 4) (by kernel_rfl) rfl rfl rfl ?_
        refine cl ca16 (c_gptWrite _ (some ⟨q9, 0, none⟩) c9 ds D m c g rc ps n ⟨hn.1, by omega⟩ hdl (hdl ▸ RB.pre (b := q9) H) (hq.keep H.fr) hft hgl hm hgu) rfl ?_
        rintro _ w17 ⟨bx, cm, DS, cs, rfl, hcm, OW⟩
        have hcmx := OW.cap_ge
        replace OW := OW.joinN H (by simp)
        simp only [List.cons_append, List.nil_append] at OW
        replace H := OW.sh
        have S := stands_wr (g := g) hn hdl hfs
        have hwl := S.len
        obtain ⟨hm11, hm12, hm13⟩ := S.mbr (Z := List.replicate (cm - n * 512) 0) hn
        obtain ⟨hm21, hm22, hm23⟩ := S.mbr2 (Z := List.replicate (cm - n * 512) 0) hn
        obtain ⟨y1, y2, y3, y4⟩ := S.gat (Z := List.replicate (cm - n * 512) 0) hn
        obtain ⟨x1, x2, x3, x4, x5⟩ := S.gat2 (Z := List.replicate (cm - n * 512) 0) hn
        refine nl ?_
        refine then_n ?_
        refine holdH H [] ?_
        refine tk (i := 5) rfl (by kernel_rfl) rfl (H.subX) (fun w' H => r_mv (v := .tuple _) rfl) ?_
        refine tk (i := 6) rfl (by kernel_rfl) rfl (H.subX) (fun w' H => r_xt rfl rfl) ?_
        refine tk (i := 7) rfl (by kernel_rfl) rfl (H.subX) (fun w' H => r_xt rfl rfl) ?_
        refine tk (i := 8) rfl (by kernel_rfl) rfl (H.subX) (fun w' H => r_xt rfl rfl) ?_
        refine tk (i := 9) rfl (by kernel_rfl) rfl (H.subX) (fun w' H => r_asg (v := .slice _ _ _) rfl) ?_
        refine tk (i := 10) rfl (by kernel_rfl) rfl (H.subX) (fun w' H => r_asg (v := .slice _ _ _) rfl) ?_
        refine tk (i := 11) rfl (by kernel_rfl) rfl (H.subX) (fun w' H => r_asg (v := .bool _) rfl) ?_
        refine da (by kernel_rfl) ?_
        refine then_n ?_
        refine sq ?_
        refine sq ?_
        refine dr (by kernel_rfl) ?_   -- region 9
        have H := H.drew
        refine holdH H [] ?_
        refine tk (i := 0) rfl (by kernel_rfl) rfl H (fun w' H => r_mv (v := .bool _) rfl) ?_
        refine tk (i := 1) rfl (by kernel_rfl) rfl H (fun w' H => r_unot rfl) ?_
        refine tk (i := 2) rfl (by kernel_rfl) rfl H (fun w' H => r_mv (v := .bool _) rfl) ?_
        first | refine spaL (t := 43) (b := false) rfl ?_ | refine spaF (t := 43) rfl rfl ?_   -- guard 9
        refine tkg (i := 3) rfl (by kernel_rfl) rfl H rfl (fun w' H => r_mv (v := .slice _ _ _) rfl) ?_
        refine tkg (i := 4) rfl (by kernel_rfl) rfl H rfl (fun w' H => r_lnS rfl Tryz.underlying30) ?_
        refine tkg (i := 5) rfl (by kernel_rfl) rfl H rfl (fun w' H => r_mv (v := .slice _ _ _) rfl) ?_
        refine tkg (i := 6) rfl (by kernel_rfl) rfl H rfl (fun w' H => r_lnS rfl Tryz.underlying30) ?_
        refine tkg (i := 7) rfl (by kernel_rfl) rfl H rfl (fun w' H => r_neq rfl rfl) ?_
        refine tk (i := 8) rfl (by kernel_rfl) rfl H (fun w' H => r_pkF (v := .bool _) rfl rfl) ?_
        refine tk (i := 9) rfl (by kernel_rfl) rfl H (fun w' H => r_mv (v := .bool _) rfl) ?_
        first | refine spaL (t := 50) (b := false) rfl ?_ | refine spaF (t := 50) rfl (by omega) ?_   -- guard 10
        refine tkg (i := 10) rfl (by kernel_rfl) rfl H rfl (fun w' H => r_mv (v := .slice _ _ _) rfl) ?_
        refine tkg (i := 11) rfl (by kernel_rfl) rfl H rfl (fun w' H => r_mv (v := .int .i64 _) rfl) ?_
        refine tkg (i := 12) rfl (by kernel_rfl) rfl H rfl (fun w' H => r_sub (c := ((n - 33 : Nat) : Int)) rfl rfl (by rw [w_i64 (by omega)]; omega)) ?_
        refine tkg (i := 13) rfl (by kernel_rfl) rfl H rfl (fun w' H => r_mul (c := (((n - 33) * 512 : Nat) : Int)) rfl rfl (by rw [w_i64 (by omega)]; omega)) ?_
        refine tkg (i := 14) rfl (by kernel_rfl) rfl H rfl (fun w' H => r_sllhN (17408) ((n - 33) * 512 - 17408) (cm - 17408) rfl rfl rfl Tryz.underlying30 sz5_1 (by omega) (by omega)) ?_
        refine tkg (i := 15) rfl (by kernel_rfl) rfl H rfl (fun w' H => r_cvBS rfl (by have e := RB.of (b := bx) (o := 17408) (n := (n - 33) * 512 - 17408) H (by rw [List.length_append]; omega); rw [wr_midZ hn.1 hdl hfs] at e; exact e) Tryz.underlying30 Tryz.underlying5 Tryz.underlying9) ?_
        refine tkg (i := 16) rfl (by kernel_rfl) rfl H rfl (fun w' H => r_mv (v := .slice _ _ _) rfl) ?_
        refine tkg (i := 17) rfl (by kernel_rfl) rfl H rfl (fun w' H => r_mv (v := .int .i64 _) rfl) ?_
        refine tkg (i := 18) rfl (by kernel_rfl) rfl H rfl (fun w' H => r_sub (c := ((n - 33 : Nat) : Int)) rfl rfl (by rw [w_i64 (by omega)]; omega)) ?_
        refine tkg (i := 19) rfl (by kernel_rfl) rfl H rfl (fun w' H => r_mul (c := (((n - 33) * 512 : Nat) : Int)) rfl rfl (by rw [w_i64 (by omega)]; omega)) ?_
        refine tkg (i := 20) rfl (by kernel_rfl) rfl H rfl (fun w' H => r_sllhN (17408) ((n - 33) * 512 - 17408) (n * 512 - 17408) rfl rfl rfl Tryz.underlying30 sz5_1 (by omega) (by omega)) ?_
        refine tkg (i := 21) rfl (by kernel_rfl) rfl H rfl (fun w' H => r_cvBS (bs := pcs ds 17408 ((n - 33) * 512 - 17408)) rfl (RB.of (b := bd) (o := 17408) (n := (n - 33) * 512 - 17408) H (by omega)) Tryz.underlying30 Tryz.underlying5 Tryz.underlying9) ?_
        refine tkg (i := 22) rfl (by kernel_rfl) rfl H rfl (fun w' H => r_neqT rfl rfl) ?_
        refine tk (i := 23) rfl (by kernel_rfl) rfl H (fun w' H => r_pkF (v := .bool _) rfl rfl) ?_
        refine da (by kernel_rfl) ?_
        refine then_n ?_
        first | refine cF rfl (by simp) ?_ | refine cbF rfl (by simp) ?_   -- test 5
        refine sk ?_
        refine then_n ?_
        refine sq ?_
        refine rg ?_
        refine mv (v := .slice _ _ _) rfl rfl ?_
        refine cl ca14 (c_gptDecode _ bx n cm 5 (cm, cm + 1) (wrB ds n g ps ++ List.replicate (cm - n * 512) 0) (H.look (b := bx)) hn (by rw [List.length_append]; omega) hcm hm11 hm12) rfl ?_
        rintro _ w18 ⟨D7, m7, cap7, s7, g7, X7, a7, rb7, b7, rfl, O7, hcs, hbb, hI⟩
        obtain ⟨h1, rfl, rfl⟩ := hcs.resolve_right (fun h => by rw [y1] at h; cases h.1)
        rw [y1] at hbb; subst hbb
        obtain ⟨k, hk, hkn, rfl, rfl, rfl, rfl⟩ := hI.1 y1
        obtain rfl : k = 2 := by rw [y2] at hk; omega
        rw [y3, used_laid hgl] at O7 ⊢
        rw [y4, hm13]
        replace O7 := O7.joinN H (by simp)
        simp only [List.append_nil] at O7
        replace H := O7.sh
        refine mv (v := .tuple _) rfl rfl ?_
        refine xt rfl rfl rfl ?_
        refine xt rfl rfl rfl ?_
        refine al H ze24 rfl ?_
        intro b5 w19 hb5 H1 F; replace O7 := O7.new F hb5 H1.look; clear H H1 F; have H := O7.sh
        refine sa (cs' := gtCells D7 (ps.map gpP).length cap7 512 (gT (gB g)) true false) H rfl rfl ag24_5 rfl rfl (by show 0 + 5 ≤ 5; decide) (by omega) rfl ?_
        intro w93 H1 F; replace O7 := O7.put F H1.look; clear H H1 F; have H := O7.sh
        refine asg (v := .bool _) rfl rfl ?_
        refine nl ?_
        refine then_n ?_
        refine sq ?_
        refine sq ?_
        refine rg ?_
        refine mv (v := .bool _) rfl rfl ?_
        refine unot rfl rfl ?_
        refine mv (v := .bool _) rfl rfl ?_
        first | refine spL (t := 72) (b := false) rfl ?_ | refine spF (t := 72) rfl rfl ?_   -- guard 11
        refine gy rfl ?_
        refine fa rfl fo24_4 rfl ?_
        refine gy rfl ?_
        first | refine ld H rfl sc4 rfl rfl ?_ | refine lc rfl (by first | assumption | exact H.fr.cell (by assumption) (by simp)) sc4 rfl ?_ | refine ld H rfl sc4 (by assumption) rfl ?_
        refine pkF (v := .bool _) rfl rfl rfl ?_
        refine mv (v := .bool _) rfl rfl ?_
        first | refine spL (t := 76) (b := false) rfl ?_ | refine spF (t := 76) rfl rfl ?_   -- guard 12
        refine gy rfl ?_
        refine fa rfl fo24_3 rfl ?_
        refine gy rfl ?_
        first | refine ld H rfl sc4 rfl rfl ?_ | refine lc rfl (by first | assumption | exact H.fr.cell (by assumption) (by simp)) sc4 rfl ?_ | refine ld H rfl sc4 (by assumption) rfl ?_
        refine gy rfl ?_
        refine unot rfl rfl ?_
        refine pkF (v := .bool _) rfl rfl rfl ?_
        refine mv (v := .bool _) rfl rfl ?_
        first | refine spL (t := 81) (b := false) rfl ?_ | refine spF (t := 81) rfl rfl ?_   -- guard 13
        refine gy rfl ?_
        refine la (vs := gtCells D7 (ps.map gpP).length cap7 512 (gT (gB g)) true false) H rfl ag24_5 rfl rfl rfl ?_
        refine gy rfl ?_
        refine la (vs := gtCells D m c 512 g true rc) H rfl ag24_5 rfl rfl rfl ?_
        refine gy rfl ?_
        refine cl ca15 (c_sameGpt _ D7 D _ cap7 m c (gT (gB g)) g _ _ _ _ (ps.map gpP) ps (RG.of_own O7 hgo) (hq.keep H.fr) (by simp; omega)) rfl ?_
        rintro _ w20 ⟨rfl, F⟩
        replace H := H.keep F; replace O7 := O7.keep F; clear F
        rw [same_laid hgu hgl hoks hn6]
        refine gy rfl ?_
        refine unot rfl rfl ?_
        refine pkF (v := .bool _) rfl rfl rfl ?_
        refine nl ?_
        refine then_n ?_
        first | refine cF rfl rfl ?_ | refine cbF rfl rfl ?_   -- test 6
        refine sk ?_
        refine then_n ?_
        refine sq ?_
        refine rg ?_
        refine mv (v := .slice _ _ _) rfl rfl ?_
        refine iBN ⟨bx, 512, none⟩ rfl rfl Tryz.underlying30 sz5_1 (by omega) rfl rfl ?_
        refine stb (o := 512) (a := 0) H rfl rfl sc5 (by decide) (by rw [List.length_append, hwl]; omega) (by omega) ?_
        clear H; intro w97 H _
        have e80 : b8 0 = 0 := by decide
        rw [e80] at H
        have hEl : n * 512 ≤ ((wrB ds n g ps ++ List.replicate (cm - n * 512) 0).set 512 0).length := by rw [List.length_set, List.length_append]; omega
        generalize (wrB ds n g ps ++ List.replicate (cm - n * 512) 0).set 512 0 = E at H hEl x1 x2 x3 x4 x5 hm21 hm22 hm23
        refine nl ?_
        refine then_n ?_
        refine sq ?_
        refine rg ?_
        refine mv (v := .slice _ _ _) rfl rfl ?_
        refine cl ca14 (c_gptDecode _ bx n cm 5 (cm, cm + 1) (E) (H.look (b := bx)) hn (by exact hEl) hcm hm21 hm22) rfl ?_
        rintro _ w21 ⟨D8, m7, cap8, s7, g7, X7, a7, rb7, b7, rfl, O8, hcs, hbb, hI⟩
        obtain ⟨h1, rfl, rfl⟩ := hcs.resolve_left (fun h => by rw [x1] at h; cases h.1)
        rw [x2] at hbb; subst hbb
        obtain ⟨k, hk, hkn, rfl, rfl, rfl, rfl⟩ := hI.1 x2
        obtain rfl : k = n - 33 := by rw [x3] at hk; omega
        rw [x4, used_laid hgl] at O8 ⊢
        rw [x5, hm23]
        replace O8 := O8.joinN H (by simp)
        simp only [List.append_nil] at O8
        replace H := O8.sh
        refine mv (v := .tuple _) rfl rfl ?_
        refine xt rfl rfl rfl ?_
        refine xt rfl rfl rfl ?_
        refine sa (cs' := gtCells D8 (ps.map gpP).length cap8 512 (gT (gB g)) true true) H rfl rfl ag24_5 rfl rfl (by show 0 + 5 ≤ 5; decide) (by omega) rfl ?_
        intro w94 H1 F; replace O8 := O8.put F H1.look; clear H H1 F; have H := O8.sh
        refine asg (v := .bool _) rfl rfl ?_
        refine nl ?_
        refine then_n ?_
        refine sq ?_
        refine rg ?_
        refine mv (v := .bool _) rfl rfl ?_
        refine mv (v := .bool _) rfl rfl ?_
        first | refine spL (t := 95) (b := true) rfl ?_ | refine spT (t := 95) rfl rfl ?_   -- guard 14
        refine gy rfl ?_
        refine fa rfl fo24_4 rfl ?_
        refine gy rfl ?_
        first | refine ld H rfl sc4 rfl rfl ?_ | refine lc rfl (by first | assumption | exact H.fr.cell (by assumption) (by simp)) sc4 rfl ?_ | refine ld H rfl sc4 (by assumption) rfl ?_
        refine pkT (v := .bool _) rfl rfl rfl ?_
        refine mv (v := .bool _) rfl rfl ?_
        first | refine spL (t := 99) (b := true) rfl ?_ | refine spT (t := 99) rfl rfl ?_   -- guard 15
        refine gy rfl ?_
        refine la (vs := gtCells D8 (ps.map gpP).length cap8 512 (gT (gB g)) true true) H rfl ag24_5 rfl rfl rfl ?_
        refine gy rfl ?_
        refine la (vs := gtCells D m c 512 g true rc) H rfl ag24_5 rfl rfl rfl ?_
        refine gy rfl ?_
        refine cl ca15 (c_sameGpt _ D8 D _ cap8 m c (gT (gB g)) g _ _ _ _ (ps.map gpP) ps (RG.of_own O8 hgo) (hq.keep H.fr) (by simp; omega)) rfl ?_
        rintro _ w22 ⟨rfl, F⟩
        replace H := H.keep F; replace O8 := O8.keep F; clear F
        rw [same_laid hgu hgl hoks hn6]
        refine pkT (v := .bool _) rfl rfl rfl ?_
        refine mv (v := .bool _) rfl rfl ?_
        first | refine spL (t := 104) (b := true) rfl ?_ | refine spT (t := 104) rfl rfl ?_   -- guard 16
        refine gy rfl ?_
        refine cl ca10 (c_awake _) rfl ?_
        rintro _ w23 ⟨rfl, F⟩
        replace H := H.keep F; replace O8 := O8.keep F; clear F
        refine pkT (v := .bool _) rfl rfl rfl ?_
        refine asg (v := .bool _) rfl rfl ?_
        refine nl ?_
        refine then_n ?_
        refine rt ?_
        refine fin_r ?_
        exact ⟨rfl, H.fr⟩

end Go.Proofs.YthcaejaaalkglaaGreatDoor.X

