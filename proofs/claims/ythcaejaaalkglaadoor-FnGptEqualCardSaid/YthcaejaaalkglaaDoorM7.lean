/- Laws and walks on the road to the statement: P31, P32, GptStand, P33, P34, P35, TabRow, P36, PartEq, DrawSeq. -/
import Derived.Test.YthcaejaaalkglaaDoorM6
/- Walks of functions, printed by a program of this claim. -/
namespace Go.Proofs.YthcaejaaalkglaaDoor.X
set_option linter.unusedVariables false
set_option linter.unusedSimpArgs false
open Go Go.RowKit
namespace PF
theorem ca23 : callable Tryd.prog 23 = true := by kernel_rfl
theorem ca24 : callable Tryd.prog 24 = true := by kernel_rfl
end PF
open PF
set_option maxRecDepth 100000 in
set_option maxHeartbeats 4000000 in
theorem c_good (w : World) (D : Option Addr) (m c : Nat) (g : List UInt8) (pr rc : Bool) (ps : List GP) (hq : RG w D m c ps) (hU : Utf8W w) (n : Nat) (hn : 80 ≤ n ∧ n ≤ 1000000) (hft : ∀ p ∈ ps, p.fit) : Calls Tryd.prog 8 #[.agg (gtCells D m c 512 g pr rc).toArray, .int .u64 (n : Int)] w (Ret fun v w' => ∃ b, v = .bool b ∧ Fr [] w w' ∧ (b = true → gOk g = true ∧ m ≤ 128 ∧ goodL n ps)) := by
 refine enter (fun ρ => ρ 4) Tryd.func8 rfl rfl rfl (res1 rfl) ?_
 have H := SH.nil w
 have hql := hq.len
 have hcap : c ≤ 9223372036854775807 := by have := hq.cap.2; unfold maxLen at this; omega
 have hcap1 := hq.cap.1
 refine sq ?_
 refine rg ?_
 refine bx (v := .agg _) H rfl rfl rfl ?_
 clear H; intro b1 w1 hb1 H _
 refine asg (v := .bool _) rfl rfl ?_
 refine nl ?_
 refine then_n ?_
 refine sq ?_
 refine rg ?_
 refine fa rfl fo24_1 rfl ?_
 refine ld H rfl sc3 rfl rfl ?_
 refine cl ca20 (c_tabSectors _) rfl ?_
 rintro _ w2 ⟨rfl, F⟩
 replace H := H.keep F; clear F
 refine asg (v := .int .u64 _) rfl rfl ?_
 refine nl ?_
 refine then_n ?_
 refine sq ?_
 refine sq ?_
 refine rg ?_
 refine fa rfl fo24_2 rfl ?_
 refine ld H rfl sc9 rfl rfl ?_
 refine cl ca21 (c_guidBytes _ _) rfl ?_
 rintro _ w3 ⟨rfl, F⟩
 replace H := H.keep F; clear F
 refine mv (v := .tuple _) rfl rfl ?_
 refine xt rfl rfl rfl ?_
 refine xt rfl rfl rfl ?_
 refine al H ze45 rfl ?_
 clear H; intro b2 w4 hb2 H _
 refine sa (cs' := Bs (gB g)) H rfl rfl ag45_16 (by rw [Bs_length, gB_len]) (List.all_eq_true.2 Bs_one) (by decide) (by omega) (List.append_nil _) ?_
 clear H; intro w91 H _
 refine asg (v := .bool _) rfl rfl ?_
 refine nl ?_
 refine then_n ?_
 refine sq ?_
 refine rg ?_
 refine mv (v := .bool _) rfl rfl ?_
 refine unot rfl rfl ?_
 refine mv (v := .bool _) rfl rfl ?_
 refine sp (t := 29) rfl (fun hg1 => ?_) (fun hg1 => ?_)
 ·refine gn rfl rfl ?_
  refine gn rfl rfl ?_
  refine gn rfl rfl ?_
  refine pkT (v := .bool _) rfl rfl rfl ?_
  refine mv (v := .bool _) rfl rfl ?_
  refine gn rfl rfl ?_
  refine gn rfl rfl ?_
  refine gn rfl rfl ?_
  refine gn rfl rfl ?_
  refine gn rfl rfl ?_
  refine pkT (v := .bool _) rfl rfl rfl ?_
  refine mv (v := .bool _) rfl rfl ?_
  refine gn rfl rfl ?_
  refine gn rfl rfl ?_
  refine gn rfl rfl ?_
  refine gn rfl rfl ?_
  refine pkT (v := .bool _) rfl rfl rfl ?_
  refine nl ?_
  refine then_n ?_
  refine cbT rfl rfl ?_
  refine sq ?_
  refine rg ?_
  refine asg (v := .bool _) rfl rfl ?_
  refine nl ?_
  refine then_n ?_
  refine rt ?_
  refine then_r ?_
  refine fin_r ?_
  exact ⟨false, rfl, H.fr, fun h => by exact Bool.noConfusion h⟩
 ·refine gy rfl ?_
  refine fa rfl fo24_1 rfl ?_
  refine gy rfl ?_
  refine ld H rfl sc3 rfl rfl ?_
  refine gy rfl ?_
  refine lss rfl rfl rfl ?_
  refine pkF (v := .bool _) rfl rfl rfl ?_
  refine mv (v := .bool _) rfl rfl ?_
  refine spd (t := 34) rfl (fun hg2 => ?_) (fun hg2 => ?_)
  ·refine gn rfl rfl ?_
   refine gn rfl rfl ?_
   refine gn rfl rfl ?_
   refine gn rfl rfl ?_
   refine gn rfl rfl ?_
   refine pkT (v := .bool _) rfl rfl rfl ?_
   refine mv (v := .bool _) rfl rfl ?_
   refine gn rfl rfl ?_
   refine gn rfl rfl ?_
   refine gn rfl rfl ?_
   refine gn rfl rfl ?_
   refine pkT (v := .bool _) rfl rfl rfl ?_
   refine nl ?_
   refine then_n ?_
   refine cbT rfl rfl ?_
   refine sq ?_
   refine rg ?_
   refine asg (v := .bool _) rfl rfl ?_
   refine nl ?_
   refine then_n ?_
   refine rt ?_
   refine then_r ?_
   refine fin_r ?_
   exact ⟨false, rfl, H.fr, fun h => by exact Bool.noConfusion h⟩
  ·refine gy rfl ?_
   refine mv (v := .int .u64 _) rfl rfl ?_
   refine gy rfl ?_
   refine mv (v := .int .u64 _) rfl rfl ?_
   refine gy rfl ?_
   refine mul rfl rfl (by first | exact w_u64 (by omega) | exact w_u64 (rng_u64 _) | exact m_u64 _) rfl ?_
   refine gy rfl ?_
   refine add rfl rfl (by first | exact w_u64 (by omega) | exact w_u64 (rng_u64 _) | exact m_u64 _) rfl ?_
   refine gy rfl ?_
   refine lss rfl rfl rfl ?_
   refine pkF (v := .bool _) rfl rfl rfl ?_
   refine mv (v := .bool _) rfl rfl ?_
   refine spd (t := 41) rfl (fun hg3 => ?_) (fun hg3 => ?_)
   ·refine gn rfl rfl ?_
    refine gn rfl rfl ?_
    refine gn rfl rfl ?_
    refine gn rfl rfl ?_
    refine pkT (v := .bool _) rfl rfl rfl ?_
    refine nl ?_
    refine then_n ?_
    refine cbT rfl rfl ?_
    refine sq ?_
    refine rg ?_
    refine asg (v := .bool _) rfl rfl ?_
    refine nl ?_
    refine then_n ?_
    refine rt ?_
    refine then_r ?_
    refine fin_r ?_
    exact ⟨false, rfl, H.fr, fun h => by exact Bool.noConfusion h⟩
   ·refine gy rfl ?_
    refine fa rfl fo24_0 rfl ?_
    refine gy rfl ?_
    refine ld H rfl sc22 rfl rfl ?_
    refine gy rfl ?_
    refine lnS rfl Tryd.underlying22 rfl ?_
    refine gy rfl ?_
    refine gtr rfl rfl rfl ?_
    refine pkF (v := .bool _) rfl rfl rfl ?_
    refine nl ?_
    refine then_n ?_
    refine cd rfl (fun hc1 => ?_) (fun hc1 => ?_)
    ·refine sq ?_
     refine rg ?_
     refine asg (v := .bool _) rfl rfl ?_
     refine nl ?_
     refine then_n ?_
     refine rt ?_
     refine then_r ?_
     refine fin_r ?_
     exact ⟨false, rfl, H.fr, fun h => by exact Bool.noConfusion h⟩
    ·refine sk ?_
     refine then_n ?_
     refine sq ?_
     refine sq ?_
     refine rg ?_
     refine fa rfl fo24_0 rfl ?_
     refine ld H rfl sc22 rfl rfl ?_
     refine lnS rfl Tryd.underlying22 rfl ?_
     refine mv (v := .int .i64 _) rfl rfl ?_
     refine nl ?_
     refine then_n ?_
     refine bk ?_
     refine lpM (α := Nat) [4, 8, 9, 10, 11, 12, 13, 15, 17, 50, 51, 52, 53, 54, 55, 56, 57, 58, 59, 60, 61, 62, 63, 64, 65, 66, 67, 68, 69, 70, 71, 72, 73, 74, 75, 76, 77, 78, 79, 80, 81, 82, 83, 84, 85, 86, 87, 88, 89, 90, 91, 92, 93, 94, 95, 96, 97, 98, 99, 100, 101, 102, 103, 104, 105, 106, 107, 108, 109, 110, 111, 112, 113, 114, 115, 116, 117, 118, 119, 120, 121, 122, 123, 124, 125, 126, 127, 128, 129, 130, 131, 132, 133, 134, 135, 136, 137, 138, 139, 140, 141, 142, 143, 144, 145, 146, 147, 148, 149, 150, 151, 152, 153, 154, 155, 156, 157, 158, 159, 160, 161, 162, 163, 164, 165, 166, 167, 168, 169, 170, 171, 172, 173, 174, 175, 176, 177, 178, 179, 180, 181, 182, 183, 184, 185, 186, 187, 188, 189, 190, 191, 192, 193, 194, 195, 196, 197, 198] (fun i => [(50, .int .i64 (i : Int))]) (fun i w' => i ≤ m ∧ (∀ j q, j < i → ps[j]? = some q → q.good n) ∧ ordTo ps i ∧ SH w [] w' [⟨b2, .cells (Bs (gB g)).toArray 45 (0, 0), true⟩, ⟨b1, .cells (gtCells D m c 512 g pr rc).toArray 24 (0, 0), true⟩]) (fun i => m - i) 0 ?_ (fCX (fN _)) ?_
     ·exact ⟨by omega, fun j p hj => by omega, fun j q r hj => by omega, H⟩
     ·rintro i ρx w5 ⟨hi, hs, ho, H⟩
      refine sq ?_
      refine rg ?_
      refine lss rfl rfl rfl ?_
      refine nl ?_
      refine then_n ?_
      refine sq ?_
      refine cd rfl (fun hc2 => ?_) (fun hc2 => ?_)
      ·obtain ⟨p, hpi⟩ : ∃ p, ps[i]? = some p := ⟨_, List.getElem?_eq_getElem (by omega)⟩
       obtain ⟨ad, rfl⟩ := hq.some_of (by omega)
       have hpm := List.mem_of_getElem? hpi
       obtain ⟨o1, o2, o3, o4, o5⟩ := hq.ok p hpm
       have hnl := (hft p hpm).nm
       refine sk ?_
       refine then_n ?_
       refine sq ?_
       refine bk ?_
       refine sq ?_
       refine rg ?_
       refine mv (v := .int .i64 _) rfl rfl ?_
       refine iBN (ad.add (i * 8)) rfl rfl Tryd.underlying22 sz49_8 (by omega) (by simp) rfl ?_
       refine lw (vs := p.cells) rfl ag49_8 rfl (fun j v h => H.fr.cell (hq.elem hpi j v h) (by simp)) rfl ?_
       refine al H ze49 rfl ?_
       clear H; intro b3 w6 hb3 H _
       refine asg (v := .int .i64 _) rfl rfl ?_
       refine sa (cs' := p.cells) H rfl rfl ag49_8 rfl rfl (by decide) (by omega) rfl ?_
       clear H; intro w35 H _
       refine nl ?_
       refine then_n ?_
       refine sq ?_
       refine rg ?_
       refine fa rfl fo49_4 rfl ?_
       refine ld H rfl sc9 rfl rfl ?_
       refine cl ca21 (c_guidBytes _ _) rfl ?_
       rintro _ w7 ⟨rfl, F⟩
       replace H := H.keep F; clear F
       refine mv (v := .tuple _) rfl rfl ?_
       refine xt rfl rfl rfl ?_
       refine xt rfl rfl rfl ?_
       refine al H ze45 rfl ?_
       clear H; intro b4 w8 hb4 H _
       refine sa (cs' := Bs (gB p.ty)) H rfl rfl ag45_16 (by rw [Bs_length, gB_len]) (List.all_eq_true.2 Bs_one) (by decide) (by omega) (List.append_nil _) ?_
       clear H; intro w92 H _
       refine asg (v := .bool _) rfl rfl ?_
       refine nl ?_
       refine then_n ?_
       refine sq ?_
       refine rg ?_
       refine fa rfl fo49_6 rfl ?_
       refine ld H rfl sc9 rfl rfl ?_
       refine cl ca21 (c_guidBytes _ _) rfl ?_
       rintro _ w9 ⟨rfl, F⟩
       replace H := H.keep F; clear F
       refine mv (v := .tuple _) rfl rfl ?_
       refine xt rfl rfl rfl ?_
       refine xt rfl rfl rfl ?_
       refine al H ze45 rfl ?_
       clear H; intro b5 w10 hb5 H _
       refine sa (cs' := Bs (gB p.gu)) H rfl rfl ag45_16 (by rw [Bs_length, gB_len]) (List.all_eq_true.2 Bs_one) (by decide) (by omega) (List.append_nil _) ?_
       clear H; intro w93 H _
       refine asg (v := .bool _) rfl rfl ?_
       refine nl ?_
       refine then_n ?_
       refine ctM (α := Unit) [4, 67, 68, 69, 70, 71, 72, 73, 74, 75, 76, 77, 78, 79, 80, 81, 82, 83, 84, 85, 86, 87, 88, 89, 90, 91, 92, 93, 94, 95, 96, 97, 98, 99, 100, 101, 102, 103, 104, 105, 106, 107, 108, 109, 110, 111, 112, 113, 114, 115, 116, 117, 118, 119, 120] (fun _u => []) (fun _u w' => (gOk p.ty = true ∧ gOk p.gu = true ∧ sameG p.ty zG = false ∧ sameG p.gu zG = false ∧ (utf16 p.nm).length ≤ 36 ∧ (1 ≤ p.ix ∧ p.ix ≤ 128) ∧ (∀ q, 0 < i → ps[i - 1]? = some q → q.ix < p.ix)) ∧ SH w [] w' [⟨b5, .cells (Bs (gB p.gu)).toArray 45 (0, 0), true⟩, ⟨b4, .cells (Bs (gB p.ty)).toArray 45 (0, 0), true⟩, ⟨b3, .cells p.cells.toArray 49 (0, 0), true⟩, ⟨b2, .cells (Bs (gB g)).toArray 45 (0, 0), true⟩, ⟨b1, .cells (gtCells (some ad) m c 512 g pr rc).toArray 24 (0, 0), true⟩]) ?_ ?_
       ·refine sq ?_
        refine dr (by kernel_rfl) ?_
        have H := H.drew
        refine holdH H [] ?_
        refine tk (i := 0) rfl (by kernel_rfl) rfl H (fun w' H => r_mv (v := .bool _) rfl) ?_
        refine tk (i := 1) rfl (by kernel_rfl) rfl H (fun w' H => r_unot rfl) ?_
        refine tk (i := 2) rfl (by kernel_rfl) rfl H (fun w' H => r_mv (v := .bool _) rfl) ?_
        refine spa (t := 69) rfl (fun hg4 => ?_) (fun hg4 => ?_)
        ·refine tkn (i := 3) rfl (by kernel_rfl) rfl H rfl ?_
         refine tkn (i := 4) rfl (by kernel_rfl) rfl H rfl ?_
         refine tk (i := 5) rfl (by kernel_rfl) rfl H (fun w' H => r_pkT (v := .bool _) rfl rfl) ?_
         refine tk (i := 6) rfl (by kernel_rfl) rfl H (fun w' H => r_mv (v := .bool _) rfl) ?_
         refine tkn (i := 7) rfl (by kernel_rfl) rfl H rfl ?_
         refine tkn (i := 8) rfl (by kernel_rfl) rfl H rfl ?_
         refine tkn (i := 9) rfl (by kernel_rfl) rfl H rfl ?_
         refine tk (i := 10) rfl (by kernel_rfl) rfl H (fun w' H => r_pkT (v := .bool _) rfl rfl) ?_
         refine tk (i := 11) rfl (by kernel_rfl) rfl H (fun w' H => r_mv (v := .bool _) rfl) ?_
         refine tkn (i := 12) rfl (by kernel_rfl) rfl H rfl ?_
         refine tkn (i := 13) rfl (by kernel_rfl) rfl H rfl ?_
         refine tkn (i := 14) rfl (by kernel_rfl) rfl H rfl ?_
         refine tk (i := 15) rfl (by kernel_rfl) rfl H (fun w' H => r_pkT (v := .bool _) rfl rfl) ?_
         refine tk (i := 16) rfl (by kernel_rfl) rfl H (fun w' H => r_mv (v := .bool _) rfl) ?_
         refine tkn (i := 17) rfl (by kernel_rfl) rfl H rfl ?_
         refine tkn (i := 18) rfl (by kernel_rfl) rfl H rfl ?_
         refine tkn (i := 19) rfl (by kernel_rfl) rfl H rfl ?_
         refine tkn (i := 20) rfl (by kernel_rfl) rfl H rfl ?_
         refine tk (i := 21) rfl (by kernel_rfl) rfl H (fun w' H => r_pkT (v := .bool _) rfl rfl) ?_
         refine tk (i := 22) rfl (by kernel_rfl) rfl H (fun w' H => r_mv (v := .bool _) rfl) ?_
         refine tkn (i := 23) rfl (by kernel_rfl) rfl H rfl ?_
         refine tkn (i := 24) rfl (by kernel_rfl) rfl H rfl ?_
         refine tkn (i := 25) rfl (by kernel_rfl) rfl H rfl ?_
         refine tkn (i := 26) rfl (by kernel_rfl) rfl H rfl ?_
         refine tk (i := 27) rfl (by kernel_rfl) rfl H (fun w' H => r_pkT (v := .bool _) rfl rfl) ?_
         refine tk (i := 28) rfl (by kernel_rfl) rfl H (fun w' H => r_mv (v := .bool _) rfl) ?_
         refine tkn (i := 29) rfl (by kernel_rfl) rfl H rfl ?_
         refine tkn (i := 30) rfl (by kernel_rfl) rfl H rfl ?_
         refine tkn (i := 31) rfl (by kernel_rfl) rfl H rfl ?_
         refine tk (i := 32) rfl (by kernel_rfl) rfl H (fun w' H => r_pkT (v := .bool _) rfl rfl) ?_
         refine tk (i := 33) rfl (by kernel_rfl) rfl H (fun w' H => r_mv (v := .bool _) rfl) ?_
         refine tkn (i := 34) rfl (by kernel_rfl) rfl H rfl ?_
         refine tkn (i := 35) rfl (by kernel_rfl) rfl H rfl ?_
         refine tkn (i := 36) rfl (by kernel_rfl) rfl H rfl ?_
         refine tk (i := 37) rfl (by kernel_rfl) rfl H (fun w' H => r_pkT (v := .bool _) rfl rfl) ?_
         refine tk (i := 38) rfl (by kernel_rfl) rfl H (fun w' H => r_mv (v := .bool _) rfl) ?_
         refine tkn (i := 39) rfl (by kernel_rfl) rfl H rfl ?_
         refine tkn (i := 40) rfl (by kernel_rfl) rfl H rfl ?_
         refine tkn (i := 41) rfl (by kernel_rfl) rfl H rfl ?_
         refine tknU (i := 42) rfl (by kernel_rfl) rfl H rfl ?_
         refine tknU (i := 43) rfl (by kernel_rfl) rfl H rfl ?_
         refine tknU (i := 44) rfl (by kernel_rfl) rfl H rfl ?_
         refine tknU (i := 45) rfl (by kernel_rfl) rfl H rfl ?_
         refine tknU (i := 46) rfl (by kernel_rfl) rfl H rfl ?_
         refine tknU (i := 47) rfl (by kernel_rfl) rfl H rfl ?_
         refine tknU (i := 48) rfl (by kernel_rfl) rfl H rfl ?_
         refine tknU (i := 49) rfl (by kernel_rfl) rfl H rfl ?_
         refine tknU (i := 50) rfl (by kernel_rfl) rfl H rfl ?_
         refine tknU (i := 51) rfl (by kernel_rfl) rfl H rfl ?_
         refine tkn (i := 52) rfl (by kernel_rfl) rfl H rfl ?_
         refine tk (i := 53) rfl (by kernel_rfl) rfl H (fun w' H => r_pkT (v := .bool _) rfl rfl) ?_
         refine da (by kernel_rfl) ?_
         refine then_n ?_
         refine cbT rfl rfl ?_
         refine sq ?_
         refine rg ?_
         refine asg (v := .bool _) rfl rfl ?_
         refine nl ?_
         refine then_n ?_
         refine rt ?_
         refine then_r ?_
         refine in_r ?_
         refine then_r ?_
         refine loop_r ?_
         refine in_r ?_
         refine then_r ?_
         refine fin_r ?_
         exact ⟨false, rfl, H.fr, fun h => by exact Bool.noConfusion h⟩
        ·refine tkg (i := 3) rfl (by kernel_rfl) rfl H rfl (fun w' H => r_mv (v := .bool _) rfl) ?_
         refine tkg (i := 4) rfl (by kernel_rfl) rfl H rfl (fun w' H => r_unot rfl) ?_
         refine tk (i := 5) rfl (by kernel_rfl) rfl H (fun w' H => r_pkF (v := .bool _) rfl rfl) ?_
         refine tk (i := 6) rfl (by kernel_rfl) rfl H (fun w' H => r_mv (v := .bool _) rfl) ?_
         refine spa (t := 73) rfl (fun hg5 => ?_) (fun hg5 => ?_)
         ·refine tkn (i := 7) rfl (by kernel_rfl) rfl H rfl ?_
          refine tkn (i := 8) rfl (by kernel_rfl) rfl H rfl ?_
          refine tkn (i := 9) rfl (by kernel_rfl) rfl H rfl ?_
          refine tk (i := 10) rfl (by kernel_rfl) rfl H (fun w' H => r_pkT (v := .bool _) rfl rfl) ?_
          refine tk (i := 11) rfl (by kernel_rfl) rfl H (fun w' H => r_mv (v := .bool _) rfl) ?_
          refine tkn (i := 12) rfl (by kernel_rfl) rfl H rfl ?_
          refine tkn (i := 13) rfl (by kernel_rfl) rfl H rfl ?_
          refine tkn (i := 14) rfl (by kernel_rfl) rfl H rfl ?_
          refine tk (i := 15) rfl (by kernel_rfl) rfl H (fun w' H => r_pkT (v := .bool _) rfl rfl) ?_
          refine tk (i := 16) rfl (by kernel_rfl) rfl H (fun w' H => r_mv (v := .bool _) rfl) ?_
          refine tkn (i := 17) rfl (by kernel_rfl) rfl H rfl ?_
          refine tkn (i := 18) rfl (by kernel_rfl) rfl H rfl ?_
          refine tkn (i := 19) rfl (by kernel_rfl) rfl H rfl ?_
          refine tkn (i := 20) rfl (by kernel_rfl) rfl H rfl ?_
          refine tk (i := 21) rfl (by kernel_rfl) rfl H (fun w' H => r_pkT (v := .bool _) rfl rfl) ?_
          refine tk (i := 22) rfl (by kernel_rfl) rfl H (fun w' H => r_mv (v := .bool _) rfl) ?_
          refine tkn (i := 23) rfl (by kernel_rfl) rfl H rfl ?_
          refine tkn (i := 24) rfl (by kernel_rfl) rfl H rfl ?_
          refine tkn (i := 25) rfl (by kernel_rfl) rfl H rfl ?_
          refine tkn (i := 26) rfl (by kernel_rfl) rfl H rfl ?_
          refine tk (i := 27) rfl (by kernel_rfl) rfl H (fun w' H => r_pkT (v := .bool _) rfl rfl) ?_
          refine tk (i := 28) rfl (by kernel_rfl) rfl H (fun w' H => r_mv (v := .bool _) rfl) ?_
          refine tkn (i := 29) rfl (by kernel_rfl) rfl H rfl ?_
          refine tkn (i := 30) rfl (by kernel_rfl) rfl H rfl ?_
          refine tkn (i := 31) rfl (by kernel_rfl) rfl H rfl ?_
          refine tk (i := 32) rfl (by kernel_rfl) rfl H (fun w' H => r_pkT (v := .bool _) rfl rfl) ?_
          refine tk (i := 33) rfl (by kernel_rfl) rfl H (fun w' H => r_mv (v := .bool _) rfl) ?_
          refine tkn (i := 34) rfl (by kernel_rfl) rfl H rfl ?_
          refine tkn (i := 35) rfl (by kernel_rfl) rfl H rfl ?_
          refine tkn (i := 36) rfl (by kernel_rfl) rfl H rfl ?_
          refine tk (i := 37) rfl (by kernel_rfl) rfl H (fun w' H => r_pkT (v := .bool _) rfl rfl) ?_
          refine tk (i := 38) rfl (by kernel_rfl) rfl H (fun w' H => r_mv (v := .bool _) rfl) ?_
          refine tkn (i := 39) rfl (by kernel_rfl) rfl H rfl ?_
          refine tkn (i := 40) rfl (by kernel_rfl) rfl H rfl ?_
          refine tkn (i := 41) rfl (by kernel_rfl) rfl H rfl ?_
          refine tknU (i := 42) rfl (by kernel_rfl) rfl H rfl ?_
          refine tknU (i := 43) rfl (by kernel_rfl) rfl H rfl ?_
          refine tknU (i := 44) rfl (by kernel_rfl) rfl H rfl ?_
          refine tknU (i := 45) rfl (by kernel_rfl) rfl H rfl ?_
          refine tknU (i := 46) rfl (by kernel_rfl) rfl H rfl ?_
          refine tknU (i := 47) rfl (by kernel_rfl) rfl H rfl ?_
          refine tknU (i := 48) rfl (by kernel_rfl) rfl H rfl ?_
          refine tknU (i := 49) rfl (by kernel_rfl) rfl H rfl ?_
          refine tknU (i := 50) rfl (by kernel_rfl) rfl H rfl ?_
          refine tknU (i := 51) rfl (by kernel_rfl) rfl H rfl ?_
          refine tkn (i := 52) rfl (by kernel_rfl) rfl H rfl ?_
          refine tk (i := 53) rfl (by kernel_rfl) rfl H (fun w' H => r_pkT (v := .bool _) rfl rfl) ?_
          refine da (by kernel_rfl) ?_
          refine then_n ?_
          refine cbT rfl rfl ?_
          refine sq ?_
          refine rg ?_
          refine asg (v := .bool _) rfl rfl ?_
          refine nl ?_
          refine then_n ?_
          refine rt ?_
          refine then_r ?_
          refine in_r ?_
          refine then_r ?_
          refine loop_r ?_
          refine in_r ?_
          refine then_r ?_
          refine fin_r ?_
          exact ⟨false, rfl, H.fr, fun h => by exact Bool.noConfusion h⟩
         ·refine tkg (i := 7) rfl (by kernel_rfl) rfl H rfl (fun w' H => r_fa rfl fo49_4) ?_
          refine tkg (i := 8) rfl (by kernel_rfl) rfl H rfl (fun w' H => r_ld H rfl sc9 rfl) ?_
          refine fk (i := 9) (by kernel_rfl) rfl rfl rfl ?_
          refine gy rfl ?_
          refine cl ca22 (c_sameGuid _ _ _) rfl ?_
          rintro _ w11 ⟨rfl, F⟩
          replace H := H.keep F; clear F
          refine nl ?_
          refine then_n ?_
          refine ⟨H, ?_⟩
          refine tk (i := 10) rfl (by kernel_rfl) rfl H (fun w' H => r_pkF (v := .bool _) rfl rfl) ?_
          refine tk (i := 11) rfl (by kernel_rfl) rfl H (fun w' H => r_mv (v := .bool _) rfl) ?_
          refine spa (t := 78) rfl (fun hg6 => ?_) (fun hg6 => ?_)
          ·refine tkn (i := 12) rfl (by kernel_rfl) rfl H rfl ?_
           refine tkn (i := 13) rfl (by kernel_rfl) rfl H rfl ?_
           refine tkn (i := 14) rfl (by kernel_rfl) rfl H rfl ?_
           refine tk (i := 15) rfl (by kernel_rfl) rfl H (fun w' H => r_pkT (v := .bool _) rfl rfl) ?_
           refine tk (i := 16) rfl (by kernel_rfl) rfl H (fun w' H => r_mv (v := .bool _) rfl) ?_
           refine tkn (i := 17) rfl (by kernel_rfl) rfl H rfl ?_
           refine tkn (i := 18) rfl (by kernel_rfl) rfl H rfl ?_
           refine tkn (i := 19) rfl (by kernel_rfl) rfl H rfl ?_
           refine tkn (i := 20) rfl (by kernel_rfl) rfl H rfl ?_
           refine tk (i := 21) rfl (by kernel_rfl) rfl H (fun w' H => r_pkT (v := .bool _) rfl rfl) ?_
           refine tk (i := 22) rfl (by kernel_rfl) rfl H (fun w' H => r_mv (v := .bool _) rfl) ?_
           refine tkn (i := 23) rfl (by kernel_rfl) rfl H rfl ?_
           refine tkn (i := 24) rfl (by kernel_rfl) rfl H rfl ?_
           refine tkn (i := 25) rfl (by kernel_rfl) rfl H rfl ?_
           refine tkn (i := 26) rfl (by kernel_rfl) rfl H rfl ?_
           refine tk (i := 27) rfl (by kernel_rfl) rfl H (fun w' H => r_pkT (v := .bool _) rfl rfl) ?_
           refine tk (i := 28) rfl (by kernel_rfl) rfl H (fun w' H => r_mv (v := .bool _) rfl) ?_
           refine tkn (i := 29) rfl (by kernel_rfl) rfl H rfl ?_
           refine tkn (i := 30) rfl (by kernel_rfl) rfl H rfl ?_
           refine tkn (i := 31) rfl (by kernel_rfl) rfl H rfl ?_
           refine tk (i := 32) rfl (by kernel_rfl) rfl H (fun w' H => r_pkT (v := .bool _) rfl rfl) ?_
           refine tk (i := 33) rfl (by kernel_rfl) rfl H (fun w' H => r_mv (v := .bool _) rfl) ?_
           refine tkn (i := 34) rfl (by kernel_rfl) rfl H rfl ?_
           refine tkn (i := 35) rfl (by kernel_rfl) rfl H rfl ?_
           refine tkn (i := 36) rfl (by kernel_rfl) rfl H rfl ?_
           refine tk (i := 37) rfl (by kernel_rfl) rfl H (fun w' H => r_pkT (v := .bool _) rfl rfl) ?_
           refine tk (i := 38) rfl (by kernel_rfl) rfl H (fun w' H => r_mv (v := .bool _) rfl) ?_
           refine tkn (i := 39) rfl (by kernel_rfl) rfl H rfl ?_
           refine tkn (i := 40) rfl (by kernel_rfl) rfl H rfl ?_
           refine tkn (i := 41) rfl (by kernel_rfl) rfl H rfl ?_
           refine tknU (i := 42) rfl (by kernel_rfl) rfl H rfl ?_
           refine tknU (i := 43) rfl (by kernel_rfl) rfl H rfl ?_
           refine tknU (i := 44) rfl (by kernel_rfl) rfl H rfl ?_
           refine tknU (i := 45) rfl (by kernel_rfl) rfl H rfl ?_
           refine tknU (i := 46) rfl (by kernel_rfl) rfl H rfl ?_
           refine tknU (i := 47) rfl (by kernel_rfl) rfl H rfl ?_
           refine tknU (i := 48) rfl (by kernel_rfl) rfl H rfl ?_
           refine tknU (i := 49) rfl (by kernel_rfl) rfl H rfl ?_
           refine tknU (i := 50) rfl (by kernel_rfl) rfl H rfl ?_
           refine tknU (i := 51) rfl (by kernel_rfl) rfl H rfl ?_
           refine tkn (i := 52) rfl (by kernel_rfl) rfl H rfl ?_
           refine tk (i := 53) rfl (by kernel_rfl) rfl H (fun w' H => r_pkT (v := .bool _) rfl rfl) ?_
           refine da (by kernel_rfl) ?_
           refine then_n ?_
           refine cbT rfl rfl ?_
           refine sq ?_
           refine rg ?_
           refine asg (v := .bool _) rfl rfl ?_
           refine nl ?_
           refine then_n ?_
           refine rt ?_
           refine then_r ?_
           refine in_r ?_
           refine then_r ?_
           refine loop_r ?_
           refine in_r ?_
           refine then_r ?_
           refine fin_r ?_
           exact ⟨false, rfl, H.fr, fun h => by exact Bool.noConfusion h⟩
          ·refine tkg (i := 12) rfl (by kernel_rfl) rfl H rfl (fun w' H => r_fa rfl fo49_6) ?_
           refine tkg (i := 13) rfl (by kernel_rfl) rfl H rfl (fun w' H => r_ld H rfl sc9 rfl) ?_
           refine fk (i := 14) (by kernel_rfl) rfl rfl rfl ?_
           refine gy rfl ?_
           refine cl ca22 (c_sameGuid _ _ _) rfl ?_
           rintro _ w12 ⟨rfl, F⟩
           replace H := H.keep F; clear F
           refine nl ?_
           refine then_n ?_
           refine ⟨H, ?_⟩
           refine tk (i := 15) rfl (by kernel_rfl) rfl H (fun w' H => r_pkF (v := .bool _) rfl rfl) ?_
           refine tk (i := 16) rfl (by kernel_rfl) rfl H (fun w' H => r_mv (v := .bool _) rfl) ?_
           refine spa (t := 83) rfl (fun hg7 => ?_) (fun hg7 => ?_)
           ·refine tkn (i := 17) rfl (by kernel_rfl) rfl H rfl ?_
            refine tkn (i := 18) rfl (by kernel_rfl) rfl H rfl ?_
            refine tkn (i := 19) rfl (by kernel_rfl) rfl H rfl ?_
            refine tkn (i := 20) rfl (by kernel_rfl) rfl H rfl ?_
            refine tk (i := 21) rfl (by kernel_rfl) rfl H (fun w' H => r_pkT (v := .bool _) rfl rfl) ?_
            refine tk (i := 22) rfl (by kernel_rfl) rfl H (fun w' H => r_mv (v := .bool _) rfl) ?_
            refine tkn (i := 23) rfl (by kernel_rfl) rfl H rfl ?_
            refine tkn (i := 24) rfl (by kernel_rfl) rfl H rfl ?_
            refine tkn (i := 25) rfl (by kernel_rfl) rfl H rfl ?_
            refine tkn (i := 26) rfl (by kernel_rfl) rfl H rfl ?_
            refine tk (i := 27) rfl (by kernel_rfl) rfl H (fun w' H => r_pkT (v := .bool _) rfl rfl) ?_
            refine tk (i := 28) rfl (by kernel_rfl) rfl H (fun w' H => r_mv (v := .bool _) rfl) ?_
            refine tkn (i := 29) rfl (by kernel_rfl) rfl H rfl ?_
            refine tkn (i := 30) rfl (by kernel_rfl) rfl H rfl ?_
            refine tkn (i := 31) rfl (by kernel_rfl) rfl H rfl ?_
            refine tk (i := 32) rfl (by kernel_rfl) rfl H (fun w' H => r_pkT (v := .bool _) rfl rfl) ?_
            refine tk (i := 33) rfl (by kernel_rfl) rfl H (fun w' H => r_mv (v := .bool _) rfl) ?_
            refine tkn (i := 34) rfl (by kernel_rfl) rfl H rfl ?_
            refine tkn (i := 35) rfl (by kernel_rfl) rfl H rfl ?_
            refine tkn (i := 36) rfl (by kernel_rfl) rfl H rfl ?_
            refine tk (i := 37) rfl (by kernel_rfl) rfl H (fun w' H => r_pkT (v := .bool _) rfl rfl) ?_
            refine tk (i := 38) rfl (by kernel_rfl) rfl H (fun w' H => r_mv (v := .bool _) rfl) ?_
            refine tkn (i := 39) rfl (by kernel_rfl) rfl H rfl ?_
            refine tkn (i := 40) rfl (by kernel_rfl) rfl H rfl ?_
            refine tkn (i := 41) rfl (by kernel_rfl) rfl H rfl ?_
            refine tknU (i := 42) rfl (by kernel_rfl) rfl H rfl ?_
            refine tknU (i := 43) rfl (by kernel_rfl) rfl H rfl ?_
            refine tknU (i := 44) rfl (by kernel_rfl) rfl H rfl ?_
            refine tknU (i := 45) rfl (by kernel_rfl) rfl H rfl ?_
            refine tknU (i := 46) rfl (by kernel_rfl) rfl H rfl ?_
            refine tknU (i := 47) rfl (by kernel_rfl) rfl H rfl ?_
            refine tknU (i := 48) rfl (by kernel_rfl) rfl H rfl ?_
            refine tknU (i := 49) rfl (by kernel_rfl) rfl H rfl ?_
            refine tknU (i := 50) rfl (by kernel_rfl) rfl H rfl ?_
            refine tknU (i := 51) rfl (by kernel_rfl) rfl H rfl ?_
            refine tkn (i := 52) rfl (by kernel_rfl) rfl H rfl ?_
            refine tk (i := 53) rfl (by kernel_rfl) rfl H (fun w' H => r_pkT (v := .bool _) rfl rfl) ?_
            refine da (by kernel_rfl) ?_
            refine then_n ?_
            refine cbT rfl rfl ?_
            refine sq ?_
            refine rg ?_
            refine asg (v := .bool _) rfl rfl ?_
            refine nl ?_
            refine then_n ?_
            refine rt ?_
            refine then_r ?_
            refine in_r ?_
            refine then_r ?_
            refine loop_r ?_
            refine in_r ?_
            refine then_r ?_
            refine fin_r ?_
            exact ⟨false, rfl, H.fr, fun h => by exact Bool.noConfusion h⟩
           ·refine tkg (i := 17) rfl (by kernel_rfl) rfl H rfl (fun w' H => r_fa rfl fo49_5) ?_
            refine tkg (i := 18) rfl (by kernel_rfl) rfl H rfl (fun w' H => r_ld H rfl sc9 rfl) ?_
            refine fk (i := 19) (by kernel_rfl) rfl rfl rfl ?_
            refine gy rfl ?_
            refine cl ca23 (c_gptName _ _ (by omega)) rfl ?_
            rintro _ w13 ⟨rfl, F⟩
            replace H := H.keep F; clear F
            refine nl ?_
            refine then_n ?_
            refine ⟨H, ?_⟩
            refine tkg (i := 20) rfl (by kernel_rfl) rfl H rfl (fun w' H => r_unot rfl) ?_
            refine tk (i := 21) rfl (by kernel_rfl) rfl H (fun w' H => r_pkF (v := .bool _) rfl rfl) ?_
            refine tk (i := 22) rfl (by kernel_rfl) rfl H (fun w' H => r_mv (v := .bool _) rfl) ?_
            refine spa (t := 89) rfl (fun hg8 => ?_) (fun hg8 => ?_)
            ·refine tkn (i := 23) rfl (by kernel_rfl) rfl H rfl ?_
             refine tkn (i := 24) rfl (by kernel_rfl) rfl H rfl ?_
             refine tkn (i := 25) rfl (by kernel_rfl) rfl H rfl ?_
             refine tkn (i := 26) rfl (by kernel_rfl) rfl H rfl ?_
             refine tk (i := 27) rfl (by kernel_rfl) rfl H (fun w' H => r_pkT (v := .bool _) rfl rfl) ?_
             refine tk (i := 28) rfl (by kernel_rfl) rfl H (fun w' H => r_mv (v := .bool _) rfl) ?_
             refine tkn (i := 29) rfl (by kernel_rfl) rfl H rfl ?_
             refine tkn (i := 30) rfl (by kernel_rfl) rfl H rfl ?_
             refine tkn (i := 31) rfl (by kernel_rfl) rfl H rfl ?_
             refine tk (i := 32) rfl (by kernel_rfl) rfl H (fun w' H => r_pkT (v := .bool _) rfl rfl) ?_
             refine tk (i := 33) rfl (by kernel_rfl) rfl H (fun w' H => r_mv (v := .bool _) rfl) ?_
             refine tkn (i := 34) rfl (by kernel_rfl) rfl H rfl ?_
             refine tkn (i := 35) rfl (by kernel_rfl) rfl H rfl ?_
             refine tkn (i := 36) rfl (by kernel_rfl) rfl H rfl ?_
             refine tk (i := 37) rfl (by kernel_rfl) rfl H (fun w' H => r_pkT (v := .bool _) rfl rfl) ?_
             refine tk (i := 38) rfl (by kernel_rfl) rfl H (fun w' H => r_mv (v := .bool _) rfl) ?_
             refine tkn (i := 39) rfl (by kernel_rfl) rfl H rfl ?_
             refine tkn (i := 40) rfl (by kernel_rfl) rfl H rfl ?_
             refine tkn (i := 41) rfl (by kernel_rfl) rfl H rfl ?_
             refine tknU (i := 42) rfl (by kernel_rfl) rfl H rfl ?_
             refine tknU (i := 43) rfl (by kernel_rfl) rfl H rfl ?_
             refine tknU (i := 44) rfl (by kernel_rfl) rfl H rfl ?_
             refine tknU (i := 45) rfl (by kernel_rfl) rfl H rfl ?_
             refine tknU (i := 46) rfl (by kernel_rfl) rfl H rfl ?_
             refine tknU (i := 47) rfl (by kernel_rfl) rfl H rfl ?_
             refine tknU (i := 48) rfl (by kernel_rfl) rfl H rfl ?_
             refine tknU (i := 49) rfl (by kernel_rfl) rfl H rfl ?_
             refine tknU (i := 50) rfl (by kernel_rfl) rfl H rfl ?_
             refine tknU (i := 51) rfl (by kernel_rfl) rfl H rfl ?_
             refine tkn (i := 52) rfl (by kernel_rfl) rfl H rfl ?_
             refine tk (i := 53) rfl (by kernel_rfl) rfl H (fun w' H => r_pkT (v := .bool _) rfl rfl) ?_
             refine da (by kernel_rfl) ?_
             refine then_n ?_
             refine cbT rfl rfl ?_
             refine sq ?_
             refine rg ?_
             refine asg (v := .bool _) rfl rfl ?_
             refine nl ?_
             refine then_n ?_
             refine rt ?_
             refine then_r ?_
             refine in_r ?_
             refine then_r ?_
             refine loop_r ?_
             refine in_r ?_
             refine then_r ?_
             refine fin_r ?_
             exact ⟨false, rfl, H.fr, fun h => by exact Bool.noConfusion h⟩
            ·refine tkg (i := 23) rfl (by kernel_rfl) rfl H rfl (fun w' H => r_fa rfl fo49_5) ?_
             refine tkg (i := 24) rfl (by kernel_rfl) rfl H rfl (fun w' H => r_ld H rfl sc9 rfl) ?_
             refine fk (i := 25) (by kernel_rfl) rfl rfl rfl ?_
             refine gy rfl ?_
             refine cl ca24 (c_valid _ p.nm (hU.keep H.fr) (by omega)) rfl ?_
             rintro _ w14 ⟨gv, rfl, F⟩
             replace H := H.keep F; clear F
             refine nl ?_
             refine then_n ?_
             refine ⟨H, ?_⟩
             refine tkg (i := 26) rfl (by kernel_rfl) rfl H rfl (fun w' H => r_unot rfl) ?_
             refine tk (i := 27) rfl (by kernel_rfl) rfl H (fun w' H => r_pkF (v := .bool _) rfl rfl) ?_
             refine tk (i := 28) rfl (by kernel_rfl) rfl H (fun w' H => r_mv (v := .bool _) rfl) ?_
             refine spa (t := 95) rfl (fun hg9 => ?_) (fun hg9 => ?_)
             ·refine tkn (i := 29) rfl (by kernel_rfl) rfl H rfl ?_
              refine tkn (i := 30) rfl (by kernel_rfl) rfl H rfl ?_
              refine tkn (i := 31) rfl (by kernel_rfl) rfl H rfl ?_
              refine tk (i := 32) rfl (by kernel_rfl) rfl H (fun w' H => r_pkT (v := .bool _) rfl rfl) ?_
              refine tk (i := 33) rfl (by kernel_rfl) rfl H (fun w' H => r_mv (v := .bool _) rfl) ?_
              refine tkn (i := 34) rfl (by kernel_rfl) rfl H rfl ?_
              refine tkn (i := 35) rfl (by kernel_rfl) rfl H rfl ?_
              refine tkn (i := 36) rfl (by kernel_rfl) rfl H rfl ?_
              refine tk (i := 37) rfl (by kernel_rfl) rfl H (fun w' H => r_pkT (v := .bool _) rfl rfl) ?_
              refine tk (i := 38) rfl (by kernel_rfl) rfl H (fun w' H => r_mv (v := .bool _) rfl) ?_
              refine tkn (i := 39) rfl (by kernel_rfl) rfl H rfl ?_
              refine tkn (i := 40) rfl (by kernel_rfl) rfl H rfl ?_
              refine tkn (i := 41) rfl (by kernel_rfl) rfl H rfl ?_
              refine tknU (i := 42) rfl (by kernel_rfl) rfl H rfl ?_
              refine tknU (i := 43) rfl (by kernel_rfl) rfl H rfl ?_
              refine tknU (i := 44) rfl (by kernel_rfl) rfl H rfl ?_
              refine tknU (i := 45) rfl (by kernel_rfl) rfl H rfl ?_
              refine tknU (i := 46) rfl (by kernel_rfl) rfl H rfl ?_
              refine tknU (i := 47) rfl (by kernel_rfl) rfl H rfl ?_
              refine tknU (i := 48) rfl (by kernel_rfl) rfl H rfl ?_
              refine tknU (i := 49) rfl (by kernel_rfl) rfl H rfl ?_
              refine tknU (i := 50) rfl (by kernel_rfl) rfl H rfl ?_
              refine tknU (i := 51) rfl (by kernel_rfl) rfl H rfl ?_
              refine tkn (i := 52) rfl (by kernel_rfl) rfl H rfl ?_
              refine tk (i := 53) rfl (by kernel_rfl) rfl H (fun w' H => r_pkT (v := .bool _) rfl rfl) ?_
              refine da (by kernel_rfl) ?_
              refine then_n ?_
              refine cbT rfl rfl ?_
              refine sq ?_
              refine rg ?_
              refine asg (v := .bool _) rfl rfl ?_
              refine nl ?_
              refine then_n ?_
              refine rt ?_
              refine then_r ?_
              refine in_r ?_
              refine then_r ?_
              refine loop_r ?_
              refine in_r ?_
              refine then_r ?_
              refine fin_r ?_
              exact ⟨false, rfl, H.fr, fun h => by exact Bool.noConfusion h⟩
             ·refine tkg (i := 29) rfl (by kernel_rfl) rfl H rfl (fun w' H => r_fa rfl fo49_0) ?_
              refine tkg (i := 30) rfl (by kernel_rfl) rfl H rfl (fun w' H => r_ld H rfl sc3 rfl) ?_
              refine tkg (i := 31) rfl (by kernel_rfl) rfl H rfl (fun w' H => r_lss rfl rfl) ?_
              refine tk (i := 32) rfl (by kernel_rfl) rfl H (fun w' H => r_pkF (v := .bool _) rfl rfl) ?_
              refine tk (i := 33) rfl (by kernel_rfl) rfl H (fun w' H => r_mv (v := .bool _) rfl) ?_
              refine spad (t := 100) rfl (fun hg10 => ?_) (fun hg10 => ?_)
              ·refine tkn (i := 34) rfl (by kernel_rfl) rfl H rfl ?_
               refine tkn (i := 35) rfl (by kernel_rfl) rfl H rfl ?_
               refine tkn (i := 36) rfl (by kernel_rfl) rfl H rfl ?_
               refine tk (i := 37) rfl (by kernel_rfl) rfl H (fun w' H => r_pkT (v := .bool _) rfl rfl) ?_
               refine tk (i := 38) rfl (by kernel_rfl) rfl H (fun w' H => r_mv (v := .bool _) rfl) ?_
               refine tkn (i := 39) rfl (by kernel_rfl) rfl H rfl ?_
               refine tkn (i := 40) rfl (by kernel_rfl) rfl H rfl ?_
               refine tkn (i := 41) rfl (by kernel_rfl) rfl H rfl ?_
               refine tknU (i := 42) rfl (by kernel_rfl) rfl H rfl ?_
               refine tknU (i := 43) rfl (by kernel_rfl) rfl H rfl ?_
               refine tknU (i := 44) rfl (by kernel_rfl) rfl H rfl ?_
               refine tknU (i := 45) rfl (by kernel_rfl) rfl H rfl ?_
               refine tknU (i := 46) rfl (by kernel_rfl) rfl H rfl ?_
               refine tknU (i := 47) rfl (by kernel_rfl) rfl H rfl ?_
               refine tknU (i := 48) rfl (by kernel_rfl) rfl H rfl ?_
               refine tknU (i := 49) rfl (by kernel_rfl) rfl H rfl ?_
               refine tknU (i := 50) rfl (by kernel_rfl) rfl H rfl ?_
               refine tknU (i := 51) rfl (by kernel_rfl) rfl H rfl ?_
               refine tkn (i := 52) rfl (by kernel_rfl) rfl H rfl ?_
               refine tk (i := 53) rfl (by kernel_rfl) rfl H (fun w' H => r_pkT (v := .bool _) rfl rfl) ?_
               refine da (by kernel_rfl) ?_
               refine then_n ?_
               refine cbT rfl rfl ?_
               refine sq ?_
               refine rg ?_
               refine asg (v := .bool _) rfl rfl ?_
               refine nl ?_
               refine then_n ?_
               refine rt ?_
               refine then_r ?_
               refine in_r ?_
               refine then_r ?_
               refine loop_r ?_
               refine in_r ?_
               refine then_r ?_
               refine fin_r ?_
               exact ⟨false, rfl, H.fr, fun h => by exact Bool.noConfusion h⟩
              ·refine tkg (i := 34) rfl (by kernel_rfl) rfl H rfl (fun w' H => r_fa rfl fo49_0) ?_
               refine tkg (i := 35) rfl (by kernel_rfl) rfl H rfl (fun w' H => r_ld H rfl sc3 rfl) ?_
               refine tkg (i := 36) rfl (by kernel_rfl) rfl H rfl (fun w' H => r_gtr rfl rfl) ?_
               refine tk (i := 37) rfl (by kernel_rfl) rfl H (fun w' H => r_pkF (v := .bool _) rfl rfl) ?_
               refine tk (i := 38) rfl (by kernel_rfl) rfl H (fun w' H => r_mv (v := .bool _) rfl) ?_
               refine spad (t := 105) rfl (fun hg11 => ?_) (fun hg11 => ?_)
               ·refine tkn (i := 39) rfl (by kernel_rfl) rfl H rfl ?_
                refine tkn (i := 40) rfl (by kernel_rfl) rfl H rfl ?_
                refine tkn (i := 41) rfl (by kernel_rfl) rfl H rfl ?_
                refine tknU (i := 42) rfl (by kernel_rfl) rfl H rfl ?_
                refine tknU (i := 43) rfl (by kernel_rfl) rfl H rfl ?_
                refine tknU (i := 44) rfl (by kernel_rfl) rfl H rfl ?_
                refine tknU (i := 45) rfl (by kernel_rfl) rfl H rfl ?_
                refine tknU (i := 46) rfl (by kernel_rfl) rfl H rfl ?_
                refine tknU (i := 47) rfl (by kernel_rfl) rfl H rfl ?_
                refine tknU (i := 48) rfl (by kernel_rfl) rfl H rfl ?_
                refine tknU (i := 49) rfl (by kernel_rfl) rfl H rfl ?_
                refine tknU (i := 50) rfl (by kernel_rfl) rfl H rfl ?_
                refine tknU (i := 51) rfl (by kernel_rfl) rfl H rfl ?_
                refine tkn (i := 52) rfl (by kernel_rfl) rfl H rfl ?_
                refine tk (i := 53) rfl (by kernel_rfl) rfl H (fun w' H => r_pkT (v := .bool _) rfl rfl) ?_
                refine da (by kernel_rfl) ?_
                refine then_n ?_
                refine cbT rfl rfl ?_
                refine sq ?_
                refine rg ?_
                refine asg (v := .bool _) rfl rfl ?_
                refine nl ?_
                refine then_n ?_
                refine rt ?_
                refine then_r ?_
                refine in_r ?_
                refine then_r ?_
                refine loop_r ?_
                refine in_r ?_
                refine then_r ?_
                refine fin_r ?_
                exact ⟨false, rfl, H.fr, fun h => by exact Bool.noConfusion h⟩
               ·refine tkg (i := 39) rfl (by kernel_rfl) rfl H rfl (fun w' H => r_mv (v := .int .i64 _) rfl) ?_
                refine tkg (i := 40) rfl (by kernel_rfl) rfl H rfl (fun w' H => r_gtr rfl rfl) ?_
                refine tkg (i := 41) rfl (by kernel_rfl) rfl H rfl (fun w' H => r_mv (v := .bool _) rfl) ?_
                refine spad (t := 108) rfl (fun hg12 => ?_) (fun hg12 => ?_)
                ·obtain ⟨x9, hp9⟩ : ∃ q, ps[i - 1]? = some q := ⟨_, List.getElem?_eq_getElem (by omega)⟩
                 refine tkg (i := 42) rfl (by kernel_rfl) rfl H rfl (fun w' H => r_fa rfl fo49_0) ?_
                 refine tkg (i := 43) rfl (by kernel_rfl) rfl H rfl (fun w' H => r_ld H rfl sc3 rfl) ?_
                 refine tkg (i := 44) rfl (by kernel_rfl) rfl H rfl (fun w' H => r_fa rfl fo24_0) ?_
                 refine tkg (i := 45) rfl (by kernel_rfl) rfl H rfl (fun w' H => r_ld H rfl sc22 rfl) ?_
                 refine tkg (i := 46) rfl (by kernel_rfl) rfl H rfl (fun w' H => r_mv (v := .int .i64 _) rfl) ?_
                 refine tkg (i := 47) rfl (by kernel_rfl) rfl H rfl (fun w' H => r_sub rfl rfl (by first | exact w_i64 (by omega) | exact w_i64 (rng_i64 _) | rfl)) ?_
                 refine tkg (i := 48) rfl (by kernel_rfl) rfl H rfl (fun w' H => r_iBN (ad.add ((i - 1) * 8)) rfl rfl Tryd.underlying22 sz49_8 (by omega) (congrArg (fun k => ad.add (k * 8)) (by omega))) ?_
                 refine tkg (i := 49) rfl (by kernel_rfl) rfl H rfl (fun w' H => r_faG rfl fo49_0) ?_
                 refine tkg (i := 50) rfl (by kernel_rfl) rfl H rfl (fun w' H => r_lc (v := .int .i64 x9.ix) rfl (H.fr.cell (hq.elem hp9 0 _ rfl) (by simp)) sc3) ?_
                 refine tkg (i := 51) rfl (by kernel_rfl) rfl H rfl (fun w' H => r_leq rfl rfl) ?_
                 refine tkg (i := 52) rfl (by kernel_rfl) rfl H rfl (fun w' H => r_pkT (v := .bool _) rfl rfl) ?_
                 refine tk (i := 53) rfl (by kernel_rfl) rfl H (fun w' H => r_pkF (v := .bool _) rfl rfl) ?_
                 refine da (by kernel_rfl) ?_
                 refine then_n ?_
                 refine cd rfl (fun hc3 => ?_) (fun hc3 => ?_)
                 ·refine sq ?_
                  refine rg ?_
                  refine asg (v := .bool _) rfl rfl ?_
                  refine nl ?_
                  refine then_n ?_
                  refine rt ?_
                  refine then_r ?_
                  refine in_r ?_
                  refine then_r ?_
                  refine loop_r ?_
                  refine in_r ?_
                  refine then_r ?_
                  refine fin_r ?_
                  exact ⟨false, rfl, H.fr, fun h => by exact Bool.noConfusion h⟩
                 ·refine sk ?_
                  refine then_n ?_
                  exact ⟨(), ⟨⟨by simpa using hg4, by simpa using hg5, hg6, hg7, by simpa using hg8, ⟨by omega, by omega⟩, fun q _ hq9 => by rw [hp9] at hq9; cases hq9; omega⟩, H⟩, (fN _), agX⟩
                ·refine tkn (i := 42) rfl (by kernel_rfl) rfl H rfl ?_
                 refine tkn (i := 43) rfl (by kernel_rfl) rfl H rfl ?_
                 refine tkn (i := 44) rfl (by kernel_rfl) rfl H rfl ?_
                 refine tkn (i := 45) rfl (by kernel_rfl) rfl H rfl ?_
                 refine tkn (i := 46) rfl (by kernel_rfl) rfl H rfl ?_
                 refine tkn (i := 47) rfl (by kernel_rfl) rfl H rfl ?_
                 refine tkn (i := 48) rfl (by kernel_rfl) rfl H rfl ?_
                 refine tkn (i := 49) rfl (by kernel_rfl) rfl H rfl ?_
                 refine tkn (i := 50) rfl (by kernel_rfl) rfl H rfl ?_
                 refine tkn (i := 51) rfl (by kernel_rfl) rfl H rfl ?_
                 refine tkg (i := 52) rfl (by kernel_rfl) rfl H rfl (fun w' H => r_pkF (v := .bool _) rfl rfl) ?_
                 refine tk (i := 53) rfl (by kernel_rfl) rfl H (fun w' H => r_pkF (v := .bool _) rfl rfl) ?_
                 refine da (by kernel_rfl) ?_
                 refine then_n ?_
                 refine cbF rfl rfl ?_
                 refine sk ?_
                 refine then_n ?_
                 exact ⟨(), ⟨⟨by simpa using hg4, by simpa using hg5, hg6, hg7, by simpa using hg8, ⟨by omega, by omega⟩, fun q h0 _ => by omega⟩, H⟩, (fN _), agX⟩
       ·rintro _u ρx w15 ⟨⟨q1, q2, q3, q4, q5, q6, q7⟩, H⟩
        refine sq ?_
        refine sq ?_
        refine rg ?_
        refine fa rfl fo49_5 rfl ?_
        refine ld H rfl sc9 rfl rfl ?_
        refine rngS H rfl Tryd.underlying9 rfl ?_
        clear H; intro b6 w16 hb6 H _
        refine nl ?_
        refine then_n ?_
        refine bk ?_
        refine lpM (α := Nat) [4, 15, 124, 125, 126, 127, 128, 129, 130, 131, 132] (fun q => []) (fun q w' => q ≤ p.nm.length ∧ (okN (p.nm.drop q) → okN p.nm) ∧ SH w [] w' [⟨b6, .stringIter (str p.nm) q, true⟩, ⟨b5, .cells (Bs (gB p.gu)).toArray 45 (0, 0), true⟩, ⟨b4, .cells (Bs (gB p.ty)).toArray 45 (0, 0), true⟩, ⟨b3, .cells p.cells.toArray 49 (0, 0), true⟩, ⟨b2, .cells (Bs (gB g)).toArray 45 (0, 0), true⟩, ⟨b1, .cells (gtCells (some ad) m c 512 g pr rc).toArray 24 (0, 0), true⟩]) (fun q => p.nm.length - q) 0 ?_ (fN _) ?_
        ·exact ⟨by omega, id, H⟩
        ·rintro q ρx w17 ⟨hqq, hkk, H⟩
         refine sq ?_
         refine rg ?_
         refine nxt H rfl rfl ?_
         clear H; intro w18 H _
         refine xt rfl (next0 _ _) rfl ?_
         refine nl ?_
         refine then_n ?_
         refine sq ?_
         refine cd rfl (fun hc4 => ?_) (fun hc4 => ?_)
         ·have hlt : q < p.nm.length := by assumption
          rw [nextP_of hlt] at H
          obtain ⟨r1, r2, r3, r4, r5, r6, _⟩ := rune_at hlt
          rw [List.length_drop] at r2
          refine sk ?_
          refine then_n ?_
          refine bk ?_
          refine sq ?_
          refine rg ?_
          refine xt rfl (next2 (by omega)) rfl ?_
          refine asg (v := .int .i32 _) rfl rfl ?_
          refine nl ?_
          refine then_n ?_
          refine sq ?_
          refine rg ?_
          refine mv (v := .int .i32 _) rfl rfl ?_
          refine eql rfl rfl rfl ?_
          refine mv (v := .bool _) rfl rfl ?_
          refine spd (t := 129) rfl (fun hg13 => ?_) (fun hg13 => ?_)
          ·refine gn rfl rfl ?_
           refine gn rfl rfl ?_
           refine pkT (v := .bool _) rfl rfl rfl ?_
           refine nl ?_
           refine then_n ?_
           refine cbT rfl rfl ?_
           refine sq ?_
           refine rg ?_
           refine asg (v := .bool _) rfl rfl ?_
           refine nl ?_
           refine then_n ?_
           refine rt ?_
           refine in_r ?_
           refine loop_r ?_
           refine in_r ?_
           refine then_r ?_
           refine in_r ?_
           refine then_r ?_
           refine loop_r ?_
           refine in_r ?_
           refine then_r ?_
           refine fin_r ?_
           exact ⟨false, rfl, H.fr, fun h => by exact Bool.noConfusion h⟩
          ·refine gy rfl ?_
           refine mv (v := .int .i32 _) rfl rfl ?_
           refine gy rfl ?_
           refine eql rfl rfl rfl ?_
           refine pkF (v := .bool _) rfl rfl rfl ?_
           refine nl ?_
           refine then_n ?_
           refine cd rfl (fun hc5 => ?_) (fun hc5 => ?_)
           ·refine sq ?_
            refine rg ?_
            refine asg (v := .bool _) rfl rfl ?_
            refine nl ?_
            refine then_n ?_
            refine rt ?_
            refine in_r ?_
            refine loop_r ?_
            refine in_r ?_
            refine then_r ?_
            refine in_r ?_
            refine then_r ?_
            refine loop_r ?_
            refine in_r ?_
            refine then_r ?_
            refine fin_r ?_
            exact ⟨false, rfl, H.fr, fun h => by exact Bool.noConfusion h⟩
           ·refine sk ?_
            refine in_n ?_
            refine loop_n ?_
            exact ⟨q + (rune1 (p.nm.drop q)).2, (by (try dsimp only); omega), ⟨by omega, fun h => hkk (okN_step hlt (by omega) (by omega) h), H⟩, (fN _), agX⟩
         ·have hnm := okN_end (by assumption) hkk
          rw [nextP_end (by assumption)] at H
          refine ex ?_
          refine then_e ?_
          refine loop_e ?_
          refine in_hit rfl ?_
          refine then_n ?_
          refine sq ?_
          refine sq ?_
          refine rg ?_
          refine fa rfl fo49_1 rfl ?_
          refine ld H rfl sc28 rfl rfl ?_
          refine mv (v := .int .u64 _) rfl rfl ?_
          refine add rfl rfl (by first | exact w_u64 (by omega) | exact w_u64 (rng_u64 _) | exact m_u64 _) rfl ?_
          refine lss rfl rfl rfl ?_
          refine mv (v := .bool _) rfl rfl ?_
          refine spd (t := 138) rfl (fun hg14 => ?_) (fun hg14 => ?_)
          ·refine gn rfl rfl ?_
           refine gn rfl rfl ?_
           refine gn rfl rfl ?_
           refine gn rfl rfl ?_
           refine gn rfl rfl ?_
           refine pkT (v := .bool _) rfl rfl rfl ?_
           refine mv (v := .bool _) rfl rfl ?_
           refine gn rfl rfl ?_
           refine gn rfl rfl ?_
           refine gn rfl rfl ?_
           refine gn rfl rfl ?_
           refine gn rfl rfl ?_
           refine gn rfl rfl ?_
           refine gn rfl rfl ?_
           refine pkT (v := .bool _) rfl rfl rfl ?_
           refine mv (v := .bool _) rfl rfl ?_
           refine gn rfl rfl ?_
           refine gn rfl rfl ?_
           refine gn rfl rfl ?_
           refine gn rfl rfl ?_
           refine gn rfl rfl ?_
           refine gn rfl rfl ?_
           refine gn rfl rfl ?_
           refine gn rfl rfl ?_
           refine gn rfl rfl ?_
           refine gn rfl rfl ?_
           refine gn rfl rfl ?_
           refine gn rfl rfl ?_
           refine gn rfl rfl ?_
           refine pkT (v := .bool _) rfl rfl rfl ?_
           refine nl ?_
           refine then_n ?_
           refine cbT rfl rfl ?_
           refine sq ?_
           refine rg ?_
           refine asg (v := .bool _) rfl rfl ?_
           refine nl ?_
           refine then_n ?_
           refine rt ?_
           refine then_r ?_
           refine in_r ?_
           refine then_r ?_
           refine loop_r ?_
           refine in_r ?_
           refine then_r ?_
           refine fin_r ?_
           exact ⟨false, rfl, H.fr, fun h => by exact Bool.noConfusion h⟩
          ·refine gy rfl ?_
           refine fa rfl fo49_2 rfl ?_
           refine gy rfl ?_
           refine ld H rfl sc28 rfl rfl ?_
           refine gy rfl ?_
           refine fa rfl fo49_1 rfl ?_
           refine gy rfl ?_
           refine ld H rfl sc28 rfl rfl ?_
           refine gy rfl ?_
           refine lss rfl rfl rfl ?_
           refine pkF (v := .bool _) rfl rfl rfl ?_
           refine mv (v := .bool _) rfl rfl ?_
           refine spd (t := 145) rfl (fun hg15 => ?_) (fun hg15 => ?_)
           ·refine gn rfl rfl ?_
            refine gn rfl rfl ?_
            refine gn rfl rfl ?_
            refine gn rfl rfl ?_
            refine gn rfl rfl ?_
            refine gn rfl rfl ?_
            refine gn rfl rfl ?_
            refine pkT (v := .bool _) rfl rfl rfl ?_
            refine mv (v := .bool _) rfl rfl ?_
            refine gn rfl rfl ?_
            refine gn rfl rfl ?_
            refine gn rfl rfl ?_
            refine gn rfl rfl ?_
            refine gn rfl rfl ?_
            refine gn rfl rfl ?_
            refine gn rfl rfl ?_
            refine gn rfl rfl ?_
            refine gn rfl rfl ?_
            refine gn rfl rfl ?_
            refine gn rfl rfl ?_
            refine gn rfl rfl ?_
            refine gn rfl rfl ?_
            refine pkT (v := .bool _) rfl rfl rfl ?_
            refine nl ?_
            refine then_n ?_
            refine cbT rfl rfl ?_
            refine sq ?_
            refine rg ?_
            refine asg (v := .bool _) rfl rfl ?_
            refine nl ?_
            refine then_n ?_
            refine rt ?_
            refine then_r ?_
            refine in_r ?_
            refine then_r ?_
            refine loop_r ?_
            refine in_r ?_
            refine then_r ?_
            refine fin_r ?_
            exact ⟨false, rfl, H.fr, fun h => by exact Bool.noConfusion h⟩
           ·refine gy rfl ?_
            refine fa rfl fo49_2 rfl ?_
            refine gy rfl ?_
            refine ld H rfl sc28 rfl rfl ?_
            refine gy rfl ?_
            refine mv (v := .int .u64 _) rfl rfl ?_
            refine gy rfl ?_
            refine sub rfl rfl (by first | exact w_u64 (by omega) | exact w_u64 (rng_u64 _) | exact m_u64 _) rfl ?_
            refine gy rfl ?_
            refine mv (v := .int .u64 _) rfl rfl ?_
            refine gy rfl ?_
            refine sub rfl rfl (by first | exact w_u64 (by omega) | exact w_u64 (rng_u64 _) | exact m_u64 _) rfl ?_
            refine gy rfl ?_
            refine gtr rfl rfl rfl ?_
            refine pkF (v := .bool _) rfl rfl rfl ?_
            refine mv (v := .bool _) rfl rfl ?_
            refine spd (t := 154) rfl (fun hg16 => ?_) (fun hg16 => ?_)
            ·refine gn rfl rfl ?_
             refine gn rfl rfl ?_
             refine gn rfl rfl ?_
             refine gn rfl rfl ?_
             refine gn rfl rfl ?_
             refine gn rfl rfl ?_
             refine gn rfl rfl ?_
             refine gn rfl rfl ?_
             refine gn rfl rfl ?_
             refine gn rfl rfl ?_
             refine gn rfl rfl ?_
             refine gn rfl rfl ?_
             refine gn rfl rfl ?_
             refine pkT (v := .bool _) rfl rfl rfl ?_
             refine nl ?_
             refine then_n ?_
             refine cbT rfl rfl ?_
             refine sq ?_
             refine rg ?_
             refine asg (v := .bool _) rfl rfl ?_
             refine nl ?_
             refine then_n ?_
             refine rt ?_
             refine then_r ?_
             refine in_r ?_
             refine then_r ?_
             refine loop_r ?_
             refine in_r ?_
             refine then_r ?_
             refine fin_r ?_
             exact ⟨false, rfl, H.fr, fun h => by exact Bool.noConfusion h⟩
            ·refine gy rfl ?_
             refine fa rfl fo49_3 rfl ?_
             refine gy rfl ?_
             refine ld H rfl sc28 rfl rfl ?_
             refine gy rfl ?_
             refine fa rfl fo49_2 rfl ?_
             refine gy rfl ?_
             refine ld H rfl sc28 rfl rfl ?_
             refine gy rfl ?_
             refine fa rfl fo49_1 rfl ?_
             refine gy rfl ?_
             refine ld H rfl sc28 rfl rfl ?_
             refine gy rfl ?_
             refine sub rfl rfl (by first | exact w_u64 (by omega) | exact w_u64 (rng_u64 _) | exact m_u64 _) rfl ?_
             refine gy rfl ?_
             refine add rfl rfl (by first | exact w_u64 (by omega) | exact w_u64 (rng_u64 _) | exact m_u64 _) rfl ?_
             refine gy rfl ?_
             refine fa rfl fo24_1 rfl ?_
             refine gy rfl ?_
             refine ld H rfl sc3 rfl rfl ?_
             refine gy rfl ?_
             refine cvi rfl rfl Tryd.underlying28 (by first | exact w_u64 (by omega) | exact w_u64 (rng_u64 _) | exact m_u64 _) rfl ?_
             refine gy rfl ?_
             refine mul rfl rfl (by first | exact w_u64 (by omega) | exact w_u64 (rng_u64 _) | exact m_u64 _) rfl ?_
             refine gy rfl ?_
             refine neq rfl rfl rfl ?_
             refine pkF (v := .bool _) rfl rfl rfl ?_
             refine nl ?_
             refine then_n ?_
             refine cd rfl (fun hc6 => ?_) (fun hc6 => ?_)
             ·refine sq ?_
              refine rg ?_
              refine asg (v := .bool _) rfl rfl ?_
              refine nl ?_
              refine then_n ?_
              refine rt ?_
              refine then_r ?_
              refine in_r ?_
              refine then_r ?_
              refine loop_r ?_
              refine in_r ?_
              refine then_r ?_
              refine fin_r ?_
              exact ⟨false, rfl, H.fr, fun h => by exact Bool.noConfusion h⟩
             ·refine sk ?_
              refine then_n ?_
              refine sq ?_
              refine rg ?_
              refine fa rfl fo24_0 rfl ?_
              refine ld H rfl sc22 rfl rfl ?_
              refine mv (v := .int .i64 _) rfl rfl ?_
              refine slh rfl rfl Tryd.underlying22 sz49_8 (by first | trivial | omega | (simp; omega)) rfl ?_
              refine lnS rfl Tryd.underlying22 rfl ?_
              refine mv (v := .int .i64 _) rfl rfl ?_
              refine nl ?_
              refine then_n ?_
              refine bk ?_
              refine lpM (α := Nat) [4, 17, 174, 175, 176, 177, 178, 179, 180, 181, 182, 183, 184, 185, 186, 187, 188, 189, 190, 191, 192, 193, 194, 195, 196, 197] (fun j => [(174, .int .i64 (j : Int))]) (fun j w' => j ≤ i ∧ SH w [] w' [⟨b3, .cells p.cells.toArray 49 (0, 0), true⟩, ⟨b2, .cells (Bs (gB g)).toArray 45 (0, 0), true⟩, ⟨b1, .cells (gtCells (some ad) m c 512 g pr rc).toArray 24 (0, 0), true⟩]) (fun j => i - j) 0 ?_ (fCX (fN _)) ?_
              ·exact ⟨by omega, H.subX⟩
              ·rintro j ρx w19 ⟨hj, H⟩
               refine sq ?_
               refine rg ?_
               refine lss rfl rfl rfl ?_
               refine nl ?_
               refine then_n ?_
               refine sq ?_
               refine cd rfl (fun hc7 => ?_) (fun hc7 => ?_)
               ·obtain ⟨y9, hy9⟩ : ∃ q, ps[j]? = some q := ⟨_, List.getElem?_eq_getElem (by omega)⟩
                refine sk ?_
                refine then_n ?_
                refine sq ?_
                refine bk ?_
                refine sq ?_
                refine rg ?_
                refine iBN (ad.add (j * 8)) rfl rfl Tryd.underlying22 sz49_8 (by omega) (by simp) rfl ?_
                refine lw (vs := y9.cells) rfl ag49_8 rfl (fun j v h => H.fr.cell (hq.elem hy9 j v h) (by simp)) rfl ?_
                refine al H ze49 rfl ?_
                clear H; intro b7 w20 hb7 H _
                refine sa (cs' := y9.cells) H rfl rfl ag49_8 rfl rfl (by decide) (by omega) rfl ?_
                clear H; intro w36 H _
                refine nl ?_
                refine then_n ?_
                refine sq ?_
                refine rg ?_
                refine fa rfl fo49_1 rfl ?_
                refine ld H rfl sc28 rfl rfl ?_
                refine fa rfl fo49_2 rfl ?_
                refine ld H rfl sc28 rfl rfl ?_
                refine leq rfl rfl rfl ?_
                refine mv (v := .bool _) rfl rfl ?_
                refine spd (t := 183) rfl (fun hg17 => ?_) (fun hg17 => ?_)
                ·refine gy rfl ?_
                 refine fa rfl fo49_1 rfl ?_
                 refine gy rfl ?_
                 refine ld H rfl sc28 rfl rfl ?_
                 refine gy rfl ?_
                 refine fa rfl fo49_2 rfl ?_
                 refine gy rfl ?_
                 refine ld H rfl sc28 rfl rfl ?_
                 refine gy rfl ?_
                 refine leq rfl rfl rfl ?_
                 refine pkT (v := .bool _) rfl rfl rfl ?_
                 refine mv (v := .bool _) rfl rfl ?_
                 refine spd (t := 190) rfl (fun hg18 => ?_) (fun hg18 => ?_)
                 ·refine gn rfl rfl ?_
                  refine gn rfl rfl ?_
                  refine gn rfl rfl ?_
                  refine gn rfl rfl ?_
                  refine gn rfl rfl ?_
                  refine pkT (v := .bool _) rfl rfl rfl ?_
                  refine nl ?_
                  refine then_n ?_
                  refine cbT rfl rfl ?_
                  refine sq ?_
                  refine rg ?_
                  refine asg (v := .bool _) rfl rfl ?_
                  refine nl ?_
                  refine then_n ?_
                  refine rt ?_
                  refine in_r ?_
                  refine then_r ?_
                  refine loop_r ?_
                  refine in_r ?_
                  refine in_r ?_
                  refine then_r ?_
                  refine loop_r ?_
                  refine in_r ?_
                  refine then_r ?_
                  refine fin_r ?_
                  exact ⟨false, rfl, H.fr, fun h => by exact Bool.noConfusion h⟩
                 ·refine gy rfl ?_
                  refine fa rfl fo49_6 rfl ?_
                  refine gy rfl ?_
                  refine ld H rfl sc9 rfl rfl ?_
                  refine gy rfl ?_
                  refine fa rfl fo49_6 rfl ?_
                  refine gy rfl ?_
                  refine ld H rfl sc9 rfl rfl ?_
                  refine gy rfl ?_
                  refine cl ca22 (c_sameGuid _ _ _) rfl ?_
                  rintro _ w21 ⟨rfl, F⟩
                  replace H := H.keep F; clear F
                  refine pkF (v := .bool _) rfl rfl rfl ?_
                  refine nl ?_
                  refine then_n ?_
                  refine cn rfl (fun hc8 => ?_) (fun hc8 => ?_)
                  ·refine sq ?_
                   refine rg ?_
                   refine asg (v := .bool _) rfl rfl ?_
                   refine nl ?_
                   refine then_n ?_
                   refine rt ?_
                   refine in_r ?_
                   refine then_r ?_
                   refine loop_r ?_
                   refine in_r ?_
                   refine in_r ?_
                   refine then_r ?_
                   refine loop_r ?_
                   refine in_r ?_
                   refine then_r ?_
                   refine fin_r ?_
                   exact ⟨false, rfl, H.fr, fun h => by exact Bool.noConfusion h⟩
                  ·refine sk ?_
                   refine in_n ?_
                   refine then_n ?_
                   refine rg ?_
                   refine add rfl rfl (by first | exact w_i64 (by omega) | exact w_i64 (rng_i64 _) | rfl) rfl ?_
                   refine mv (v := .int .i64 _) rfl rfl ?_
                   refine nl ?_
                   refine loop_n ?_
                   exact ⟨j + 1, (by (try dsimp only); omega), ⟨by omega, H.subX⟩, (fCX (fN _)), agX⟩
                ·refine gn rfl rfl ?_
                 refine gn rfl rfl ?_
                 refine gn rfl rfl ?_
                 refine gn rfl rfl ?_
                 refine gn rfl rfl ?_
                 refine pkF (v := .bool _) rfl rfl rfl ?_
                 refine mv (v := .bool _) rfl rfl ?_
                 refine gy rfl ?_
                 refine fa rfl fo49_6 rfl ?_
                 refine gy rfl ?_
                 refine ld H rfl sc9 rfl rfl ?_
                 refine gy rfl ?_
                 refine fa rfl fo49_6 rfl ?_
                 refine gy rfl ?_
                 refine ld H rfl sc9 rfl rfl ?_
                 refine gy rfl ?_
                 refine cl ca22 (c_sameGuid _ _ _) rfl ?_
                 rintro _ w22 ⟨rfl, F⟩
                 replace H := H.keep F; clear F
                 refine pkF (v := .bool _) rfl rfl rfl ?_
                 refine nl ?_
                 refine then_n ?_
                 refine cn rfl (fun hc9 => ?_) (fun hc9 => ?_)
                 ·refine sq ?_
                  refine rg ?_
                  refine asg (v := .bool _) rfl rfl ?_
                  refine nl ?_
                  refine then_n ?_
                  refine rt ?_
                  refine in_r ?_
                  refine then_r ?_
                  refine loop_r ?_
                  refine in_r ?_
                  refine in_r ?_
                  refine then_r ?_
                  refine loop_r ?_
                  refine in_r ?_
                  refine then_r ?_
                  refine fin_r ?_
                  exact ⟨false, rfl, H.fr, fun h => by exact Bool.noConfusion h⟩
                 ·refine sk ?_
                  refine in_n ?_
                  refine then_n ?_
                  refine rg ?_
                  refine add rfl rfl (by first | exact w_i64 (by omega) | exact w_i64 (rng_i64 _) | rfl) rfl ?_
                  refine mv (v := .int .i64 _) rfl rfl ?_
                  refine nl ?_
                  refine loop_n ?_
                  exact ⟨j + 1, (by (try dsimp only); omega), ⟨by omega, H.subX⟩, (fCX (fN _)), agX⟩
               ·refine ex ?_
                refine then_e ?_
                refine loop_e ?_
                refine in_hit rfl ?_
                refine in_n ?_
                refine then_n ?_
                refine rg ?_
                refine add rfl rfl (by first | exact w_i64 (by omega) | exact w_i64 (rng_i64 _) | rfl) rfl ?_
                refine mv (v := .int .i64 _) rfl rfl ?_
                refine nl ?_
                refine loop_n ?_
                exact ⟨i + 1, (by (try dsimp only); omega), ⟨by omega, all_next hs hpi ⟨q1, q2, q3, q4, q5, hnm, q6, by omega, by omega, by omega, by omega⟩, ordTo_next ho hpi q7, H.subX⟩, (fCX (fN _)), agX⟩
      ·refine ex ?_
       refine then_e ?_
       refine loop_e ?_
       refine in_hit rfl ?_
       refine then_n ?_
       refine sq ?_
       refine rg ?_
       refine asg (v := .bool _) rfl rfl ?_
       refine nl ?_
       refine then_n ?_
       refine rt ?_
       refine fin_r ?_
       exact ⟨true, rfl, H.fr, fun _ => ⟨by simpa using hg1, by omega, all_mem (by omega) hs, ordTo_all (by omega) ho⟩⟩
end Go.Proofs.YthcaejaaalkglaaDoor.X
/- Walks of functions, printed by a program of this claim. -/
namespace Go.Proofs.YthcaejaaalkglaaDoor.X
set_option linter.unusedVariables false
set_option linter.unusedSimpArgs false
open Go Go.RowKit
namespace PF
theorem ca7 : callable Tryd.prog 7 = true := by kernel_rfl
theorem ca8 : callable Tryd.prog 8 = true := by kernel_rfl
theorem ca9 : callable Tryd.prog 9 = true := by kernel_rfl
theorem fo24_4 : fieldOff Tryd.prog 24 4 = some 4 := by kernel_rfl
end PF
open PF
end Go.Proofs.YthcaejaaalkglaaDoor.X
/- A disk on which a table stands, in both places; what is left of it when bytes are spoilt. -/
namespace Go.Proofs.YthcaejaaalkglaaDoor.X
set_option linter.unusedVariables false
open Go
structure Stands (D : List UInt8) (n : Nat) (g : List UInt8) (ps : List GP) : Prop where
 len : D.length = n * 512
 g1 : hdrGood D 512 = true
 k1 : crcOk D 512 = true
 f1 : fld D 584 8 = 2 ∧ fld D 592 4 = 128 ∧ fld D 596 4 = 128
 c1 : fld D 600 4 = crc32 (arrB ps)
 a1 : pcs D 1024 16384 = arrB ps
 u1 : pcs D 568 16 = gB g
 m1 : fld D 536 8 = 1
 o1 : fld D 544 8 = (n : Int) - 1
 i1 : fld D 552 8 = 34
 x1 : fld D 560 8 = (n : Int) - 34
 g2 : hdrGood D (512 * (n - 1)) = true
 k2 : crcOk D (512 * (n - 1)) = true
 f2 : fld D (512 * (n - 1) + 72) 8 = ((n - 33 : Nat) : Int) ∧ fld D (512 * (n - 1) + 80) 4 = 128 ∧ fld D (512 * (n - 1) + 84) 4 = 128
 c2 : fld D (512 * (n - 1) + 88) 4 = crc32 (arrB ps)
 a2 : pcs D (512 * (n - 33)) 16384 = arrB ps
 u2 : pcs D (512 * (n - 1) + 56) 16 = gB g
 m2 : fld D (512 * (n - 1) + 24) 8 = (n : Int) - 1
 i2 : fld D (512 * (n - 1) + 40) 8 = 34
 pr : protB (pcs D 0 512) ((n : Int) - 1) = true
section stands
variable {D : List UInt8} {n : Nat} {g : List UInt8} {ps : List GP}
theorem Stands.read (S : Stands D n g ps) (hn : 80 ≤ n ∧ n ≤ 1000000) :
  (hdrGood D 512 && decide (fld D 600 4 = crc32 (pcs D 1024 16384))) = true ∧
  (hdrGood D 512 = true → fld D 584 8 = 2 ∧ fld D 592 4 = 128 ∧ fld D 596 4 = 128) ∧
  (hdrGood D (512 * (n - 1)) = true → fld D (512 * (n - 1) + 72) 8 = ((n - 33 : Nat) : Int) ∧ fld D (512 * (n - 1) + 80) 4 = 128 ∧ fld D (512 * (n - 1) + 84) 4 = 128) ∧
  fitsB D 512 512 = true ∧ fitsB D 512 (512 * (n - 1)) = true ∧
  protB (pcs D 0 512) (fld D 544 8 % 4294967296) = true := by
 refine ⟨by rw [S.g1, S.c1, S.a1]; simp, fun _ => S.f1, fun _ => S.f2, laid_fits (by rw [S.f1.1]; decide) S.f1.2.1 S.f1.2.2, laid_fits (by rw [S.f2.1]; omega) S.f2.2.1 S.f2.2.2, ?_⟩
 rw [S.o1, Int.emod_eq_of_lt (by omega) (by omega)]
 exact S.pr
theorem Stands.read2 (S : Stands D n g ps) (hn : 80 ≤ n ∧ n ≤ 1000000) : (hdrGood D (512 * (n - 1)) && decide (fld D (512 * (n - 1) + 24) 8 = ((n - 1 : Nat) : Int)) && decide (fld D (512 * (n - 1) + 88) 4 = crc32 (pcs D (512 * (n - 33)) 16384))) = true ∧ protB (pcs D 0 512) (fld D (512 * (n - 1) + 24) 8 % 4294967296) = true := by
 refine ⟨?_, ?_⟩
 ·rw [S.g2, S.c2, S.a2, S.m2, decide_eq_true (p := (n : Int) - 1 = ((n - 1 : Nat) : Int)) (by omega)]; simp
 ·rw [S.m2, Int.emod_eq_of_lt (by omega) (by omega)]; exact S.pr
theorem Stands.one (S : Stands D n g ps) (hn : 80 ≤ n ∧ n ≤ 1000000) {q : Nat} {c : UInt8} (hq : (512 ≤ q ∧ q < 604) ∨ (1024 ≤ q ∧ q < 17408)) (hc : D[q]? ≠ some c) :
  (D.set q c).length = n * 512 ∧
  (hdrGood (D.set q c) 512 && decide (fld (D.set q c) 600 4 = crc32 (pcs (D.set q c) 1024 16384))) = false ∧
  (hdrGood (D.set q c) (512 * (n - 1)) && decide (fld (D.set q c) (512 * (n - 1) + 24) 8 = ((n - 1 : Nat) : Int)) && decide (fld (D.set q c) (512 * (n - 1) + 88) 4 = crc32 (pcs (D.set q c) (512 * (n - 33)) 16384))) = true ∧
  (hdrGood (D.set q c) 512 = true → fld (D.set q c) 584 8 = 2 ∧ fld (D.set q c) 592 4 = 128 ∧ fld (D.set q c) 596 4 = 128) ∧
  (hdrGood (D.set q c) (512 * (n - 1)) = true → fld (D.set q c) (512 * (n - 1) + 72) 8 = ((n - 33 : Nat) : Int) ∧ fld (D.set q c) (512 * (n - 1) + 80) 4 = 128 ∧ fld (D.set q c) (512 * (n - 1) + 84) 4 = 128) ∧
  fitsB (D.set q c) 512 512 = true ∧ fitsB (D.set q c) 512 (512 * (n - 1)) = true ∧
  pcs (D.set q c) (512 * (n - 1) + 56) 16 = gB g ∧ protB (pcs (D.set q c) 0 512) (fld (D.set q c) (512 * (n - 1) + 24) 8 % 4294967296) = true ∧
  pcs (D.set q c) (512 * (n - 33)) 16384 = arrB ps := by
 have hl := S.len
 obtain ⟨r1, r2, r3, r4, r5, r6⟩ := S.read hn
 obtain ⟨b1, b2⟩ := S.read2 hn
 obtain ⟨s1, s2, s3⟩ := spoil (ds := D) (A := 512) (R := 1024) (q := q) (c := c) (by omega) (by omega) (by omega) hq hc S.k1 (by rw [S.a1]; exact S.c1)
 have hA : q < 512 * (n - 1) ∨ 512 * (n - 1) + 92 ≤ q := by omega
 refine ⟨by rw [List.length_set, hl], ?_, ?_, fun h => ?_, fun h => ?_, s3 r4, ?_, ?_, ?_, ?_⟩
 ·rcases s1 with h | h
  ·rw [h]; rfl
  ·rw [decide_eq_false (p := fld (D.set q c) 600 4 = crc32 (pcs (D.set q c) 1024 16384)) h, Bool.and_false]
 ·rw [(hdr_out hA).1, fld_set_out (by omega), fld_set_out (by omega), pcs_set_out (by omega)]; exact b1
 ·obtain ⟨_, t⟩ := s2 h
  rw [t 584 8 (by decide) (by decide), t 592 4 (by decide) (by decide), t 596 4 (by decide) (by decide)]; exact S.f1
 ·rw [fld_set_out (by omega), fld_set_out (by omega), fld_set_out (by omega)]; exact S.f2
 ·rw [fits_out hA]; exact r5
 ·rw [pcs_set_out (by omega)]; exact S.u2
 ·rw [pcs_set_out (by omega), fld_set_out (by omega)]; exact b2
 ·rw [pcs_set_out (by omega)]; exact S.a2
theorem Stands.two (S : Stands D n g ps) (hn : 80 ≤ n ∧ n ≤ 1000000) {q p : Nat} {c d : UInt8} (hq : (512 ≤ q ∧ q < 604) ∨ (1024 ≤ q ∧ q < 17408)) (hc : D[q]? ≠ some c) (hp : (512 * (n - 1) ≤ p ∧ p < 512 * (n - 1) + 92) ∨ (512 * (n - 33) ≤ p ∧ p < 512 * (n - 33) + 16384)) (hd : (D.set q c)[p]? ≠ some d) :
  ((D.set q c).set p d).length = n * 512 ∧
  (hdrGood ((D.set q c).set p d) 512 && decide (fld ((D.set q c).set p d) 600 4 = crc32 (pcs ((D.set q c).set p d) 1024 16384))) = false ∧
  (hdrGood ((D.set q c).set p d) (512 * (n - 1)) && decide (fld ((D.set q c).set p d) (512 * (n - 1) + 24) 8 = ((n - 1 : Nat) : Int)) && decide (fld ((D.set q c).set p d) (512 * (n - 1) + 88) 4 = crc32 (pcs ((D.set q c).set p d) (512 * (n - 33)) 16384))) = false ∧
  (hdrGood ((D.set q c).set p d) 512 = true → fld ((D.set q c).set p d) 584 8 = 2 ∧ fld ((D.set q c).set p d) 592 4 = 128 ∧ fld ((D.set q c).set p d) 596 4 = 128) ∧
  (hdrGood ((D.set q c).set p d) (512 * (n - 1)) = true → fld ((D.set q c).set p d) (512 * (n - 1) + 72) 8 = ((n - 33 : Nat) : Int) ∧ fld ((D.set q c).set p d) (512 * (n - 1) + 80) 4 = 128 ∧ fld ((D.set q c).set p d) (512 * (n - 1) + 84) 4 = 128) ∧
  fitsB ((D.set q c).set p d) 512 512 = true ∧ fitsB ((D.set q c).set p d) 512 (512 * (n - 1)) = true := by
 have hl := S.len
 obtain ⟨t0, t1, t2, t3, t4, t5, t6, t7, t8, t9⟩ := S.one hn hq hc
 have hA : q < 512 * (n - 1) ∨ 512 * (n - 1) + 92 ≤ q := by omega
 have k2 : crcOk (D.set q c) (512 * (n - 1)) = true := by rw [(hdr_out hA).2.2]; exact S.k2
 obtain ⟨s1, s2, s3⟩ := spoil (ds := D.set q c) (A := 512 * (n - 1)) (R := 512 * (n - 33)) (q := p) (c := d) (by omega) (by omega) (by omega) hp hd k2 (by rw [t9, fld_set_out (by omega)]; exact S.c2)
 have hB : p < 512 ∨ 512 + 92 ≤ p := by omega
 refine ⟨by rw [List.length_set, t0], ?_, ?_, fun h => ?_, fun h => ?_, ?_, s3 t6⟩
 ·rw [(hdr_out hB).1, fld_set_out (by omega), pcs_set_out (by omega)]; exact t1
 ·rcases s1 with h | h
  ·rw [h]; simp
  ·rw [decide_eq_false (p := fld ((D.set q c).set p d) (512 * (n - 1) + 88) 4 = crc32 (pcs ((D.set q c).set p d) (512 * (n - 33)) 16384)) h, Bool.and_false]
 ·have e := t3 (by rw [← (hdr_out hB).1]; exact h)
  rw [← fld_set_out (q := p) (c := d) (by omega), ← fld_set_out (p := 592) (q := p) (c := d) (by omega), ← fld_set_out (p := 596) (q := p) (c := d) (by omega)] at e
  exact e
 ·obtain ⟨t, u⟩ := s2 h
  rw [u _ 8 (by omega) (by omega), u _ 4 (by omega) (by omega), u _ 4 (by omega) (by omega)]
  exact t4 t
 ·rw [fits_out hB]; exact t5
end stands
end Go.Proofs.YthcaejaaalkglaaDoor.X
/- Walks of functions, printed by a program of this claim. -/
namespace Go.Proofs.YthcaejaaalkglaaDoor.X
set_option linter.unusedVariables false
set_option linter.unusedSimpArgs false
open Go Go.RowKit
namespace PF
theorem fo99_12 : fieldOff Tryd.prog 99 12 = some 12 := by kernel_rfl
theorem fo99_13 : fieldOff Tryd.prog 99 13 = some 13 := by kernel_rfl
end PF
open PF
end Go.Proofs.YthcaejaaalkglaaDoor.X
/- Tables of the package's own kind, made of tables of the statements'. -/
namespace Go.Proofs.YthcaejaaalkglaaDoor.X
set_option linter.unusedVariables false
open Go Go.RowKit
theorem perm_snoc2 {T : TypeId} {l : PL} {p : Nat} {cs : List Value} (e f : Ent) : ((⟨p, .cells cs.toArray T (0, 0), true⟩ : Ent) :: e :: f :: ents T l).Perm (e :: f :: ents T (l ++ [(p, cs)])) := perm_snoc (x := (p, cs)) [e, f]
def pcW (p : GP) : List Value := p.cells ++ [.int .i64 0, .int .i64 0]
def tbZ (D : Option Addr) (m c : Nat) (g : List UInt8) (pr rb : Bool) : List Value := tbC D m c 512 512 g pr rb 0 0 0 0 0 0 0 0 false
theorem snd_snoc {l : PL} {ps : List GP} {i : Nat} {p : GP} {b : Nat} (h : l.map Prod.snd = (ps.take i).map pcW) (hp : ps[i]? = some p) : (l ++ [(b, pcW p)]).map Prod.snd = (ps.take (i + 1)).map pcW := by
 rw [List.map_append, h, take_succ_get hp, List.map_append]; rfl
theorem u16_two {c : Nat} (h : 65535 < c) : (u16 c).length = 2 := by unfold u16; rw [if_pos (by omega)]; rfl
theorem u16_one {c : Nat} (h : ¬ 65535 < c) : (u16 c).length = 1 := by unfold u16; rw [if_neg (by omega)]; rfl
theorem units_at {bs : List UInt8} {pos : Nat} (h : pos < bs.length) : (utf16 (bs.drop pos)).length = (u16 (rune1 (bs.drop pos)).1).length + (utf16 (bs.drop (pos + (rune1 (bs.drop pos)).2))).length := by
 rw [utf16_at h, List.length_append]
theorem units_end {bs : List UInt8} {pos : Nat} (h : ¬ pos < bs.length) : (utf16 (bs.drop pos)).length = 0 := by
 rw [List.drop_of_length_le (by omega)]; rfl
end Go.Proofs.YthcaejaaalkglaaDoor.X
/- Walks of functions, printed by a program of this claim. -/
namespace Go.Proofs.YthcaejaaalkglaaDoor.X
set_option linter.unusedVariables false
set_option linter.unusedSimpArgs false
open Go Go.RowKit
namespace PF
theorem pl103_3 : placeOf Tryd.prog 103 3 = some (3, 1) := by kernel_rfl
theorem pl99_1 : placeOf Tryd.prog 99 1 = some (1, 1) := by kernel_rfl
theorem pl99_2 : placeOf Tryd.prog 99 2 = some (2, 1) := by kernel_rfl
theorem pl99_4 : placeOf Tryd.prog 99 4 = some (4, 1) := by kernel_rfl
theorem pl99_5 : placeOf Tryd.prog 99 5 = some (5, 1) := by kernel_rfl
end PF
open PF
set_option maxRecDepth 100000 in
set_option maxHeartbeats 4000000 in
theorem c_gptTable (w : World) (D : Option Addr) (m c : Nat) (g : List UInt8) (pr rc : Bool) (ps : List GP) (hq : RG w D m c ps) (hm : m ≤ 200) (hft : ∀ p ∈ ps, p.fit) (hun : ∀ p ∈ ps, (utf16 p.nm).length ≤ 36) : Calls Tryd.prog 34 #[.agg (gtCells D m c 512 g pr rc).toArray] w (Ret fun v w' => ∃ t D2 cap l, v = .tuple #[.pointer (some ⟨t, 0, none⟩), .bool true] ∧ l.map Prod.snd = ps.map pcW ∧ l.length = m ∧ (m = 0 → D2 = none) ∧ (m ≠ 0 → ∃ ad, D2 = some ad) ∧ OR 100 1 w [] w' (⟨t, .cells (tbZ D2 m cap g pr rc).toArray 99 (0, 0), true⟩ :: ents 103 l) D2 m cap (ptrs l)) := by
 refine enter (fun ρ => .tuple #[ρ 2, ρ 3]) Tryd.func34 rfl rfl rfl (res2 rfl) ?_
 have H := SH.nil w
 have hql := hq.len
 refine sq ?_
 refine rg ?_
 refine bx (v := .agg _) H rfl rfl rfl ?_
 clear H; intro b1 w1 hb1 H _
 refine asg (v := .pointer _) rfl rfl ?_
 refine asg (v := .bool _) rfl rfl ?_
 refine nl ?_
 refine then_n ?_
 refine sq ?_
 refine rg ?_
 refine fa rfl fo24_1 rfl ?_
 refine ld H rfl sc3 rfl rfl ?_
 refine cl ca45 (c_secAsked _ 512 (by decide)) rfl ?_
 rintro _ w2 ⟨rfl, F⟩
 replace H := H.keep F; clear F
 refine mv (v := .bool _) rfl rfl ?_
 refine spL (t := 12) (b := true) rfl ?_
 refine gy rfl ?_
 refine fa rfl fo24_0 rfl ?_
 refine gy rfl ?_
 refine ld H rfl sc22 rfl rfl ?_
 refine gy rfl ?_
 refine lnS rfl Tryd.underlying22 rfl ?_
 refine gy rfl ?_
 refine leq rfl rfl rfl ?_
 refine pkT (v := .bool _) rfl rfl rfl ?_
 refine asgN (v' := .bool true) rfl (congrArg Value.bool (decide_eq_true (by omega))) rfl ?_
 refine nl ?_
 refine then_n ?_
 refine sq ?_
 refine rg ?_
 refine fa rfl fo24_1 rfl ?_
 refine ld H rfl sc3 rfl rfl ?_
 refine fa rfl fo24_1 rfl ?_
 refine ld H rfl sc3 rfl rfl ?_
 refine fa rfl fo24_2 rfl ?_
 refine ld H rfl sc9 rfl rfl ?_
 refine fa rfl fo24_3 rfl ?_
 refine ld H rfl sc4 rfl rfl ?_
 refine fa rfl fo24_4 rfl ?_
 refine ld H rfl sc4 rfl rfl ?_
 refine bu (out := ?o1) ze99 bo99 ?f1 rfl ?_
 case f1 =>
  refine FL.one (v := .int .i64 _) rfl pl99_1 rfl (by first | decide | simp) ?_
  refine FL.one (v := .int .i64 _) rfl pl99_2 rfl (by first | decide | simp) ?_
  refine FL.one (v := .string _) rfl pl99_3 rfl (by first | decide | simp) ?_
  refine FL.one (v := .bool _) rfl pl99_4 rfl (by first | decide | simp) ?_
  refine FL.one (v := .bool _) rfl pl99_5 rfl (by first | decide | simp) ?_
  exact FL.nil
 refine bx (v := .agg _) H rfl rfl rfl ?_
 clear H; intro b2 w3 hb2 H _
 refine asg (v := .pointer _) rfl rfl ?_
 refine nl ?_
 refine then_n ?_
 refine sq ?_
 refine sq ?_
 refine rg ?_
 replace H := sh_cells0 (cs' := tbZ none 0 0 g pr rc) H rfl
 refine fa rfl fo24_0 rfl ?_
 refine ld H rfl sc22 rfl rfl ?_
 refine lnS rfl Tryd.underlying22 rfl ?_
 refine mv (v := .int .i64 _) rfl rfl ?_
 refine nl ?_
 refine then_n ?_
 refine bk ?_
 refine lpM (α := Nat × Option Addr × Nat × PL) [3, 5, 6, 8, 33, 34, 35, 36, 37, 38, 39, 40, 41, 42, 43, 44, 45, 46, 47, 48, 49, 50, 51, 52, 53, 54, 55, 56, 57, 58, 59, 60, 61, 62, 63, 64, 65, 66, 67, 68, 69, 70, 71, 72, 73, 74, 75, 76, 77, 78, 79, 80, 81] (fun (i, D2, cap, l) => [(3, .bool true), (33, .int .i64 (i : Int))]) (fun (i, D2, cap, l) w' => i ≤ m ∧ l.length = i ∧ l.map Prod.snd = (ps.take i).map pcW ∧ (i = 0 → D2 = none) ∧ OR 100 1 w [] w' (⟨b2, .cells (tbZ D2 i cap g pr rc).toArray 99 (0, 0), true⟩ :: ⟨b1, .cells (gtCells D m c 512 g pr rc).toArray 24 (0, 0), true⟩ :: ents 103 l) D2 i cap (ptrs l)) (fun (i, D2, cap, l) => m - i) (0, none, 0, []) ?_ (fCX (fCX (fN _))) ?_
 ·exact ⟨by omega, rfl, rfl, fun _ => rfl, OR.nil H⟩
 ·rintro ⟨i, D2, cap, l⟩ ρx w4 ⟨hi, hll, hro, hA0, O⟩
  have H := O.sh
  refine sq ?_
  refine rg ?_
  refine lss rfl rfl rfl ?_
  refine nl ?_
  refine then_n ?_
  refine sq ?_
  refine cd rfl (fun hc1 => ?_) (fun hc1 => ?_)
  ·obtain ⟨p, hpi⟩ : ∃ p, ps[i]? = some p := ⟨_, List.getElem?_eq_getElem (by omega)⟩
   obtain ⟨ad, rfl⟩ := hq.some_of (by omega)
   have hpm := List.mem_of_getElem? hpi
   have hnl := (hft p hpm).nm
   have hpu := hun p hpm
   refine sk ?_
   refine then_n ?_
   refine sq ?_
   refine bk ?_
   refine sq ?_
   refine rg ?_
   refine iBN (ad.add (i * 8)) rfl rfl Tryd.underlying22 sz49_8 (by omega) (by simp) rfl ?_
   refine lw (vs := p.cells) rfl ag49_8 rfl (fun j v h => H.fr.cell (hq.elem hpi j v h) (by simp)) rfl ?_
   refine al H ze49 rfl ?_
   intro b3 w5 hb3 H1 F; replace O := O.new F hb3 H1.look; clear H H1 F; have H := O.sh
   refine sa (cs' := p.cells) H rfl rfl ag49_8 rfl rfl (by decide) (by omega) rfl ?_
   intro w96 H96 F96; replace O := O.put F96 H96.look; clear H H96 F96; have H := O.sh
   refine nl ?_
   refine then_n ?_
   refine sq ?_
   refine rg ?_
   refine asg (v := .int .i64 _) rfl rfl ?_
   refine nl ?_
   refine then_n ?_
   refine sq ?_
   refine sq ?_
   refine rg ?_
   refine fa rfl fo49_5 rfl ?_
   refine ld H rfl sc9 rfl rfl ?_
   refine rngS H rfl Tryd.underlying9 rfl ?_
   intro b4 w6 hb4 H1 F; replace O := O.new F hb4 H1.look; clear H H1 F; have H := O.sh
   refine nl ?_
   refine then_n ?_
   refine bk ?_
   refine lpM (α := Nat × Nat) [6, 8, 40, 41, 42, 43, 44, 45, 46, 47, 48] (fun (q, k) => [(6, .int .i64 (k : Int))]) (fun (q, k) w' => q ≤ p.nm.length ∧ k ≤ 2 * q ∧ k + (utf16 (p.nm.drop q)).length = (utf16 p.nm).length ∧ OR 100 1 w [] w' (⟨b4, .stringIter (str p.nm) q, true⟩ :: ⟨b3, .cells p.cells.toArray 49 (0, 0), true⟩ :: ⟨b2, .cells (tbZ D2 i cap g pr rc).toArray 99 (0, 0), true⟩ :: ⟨b1, .cells (gtCells (some ad) m c 512 g pr rc).toArray 24 (0, 0), true⟩ :: ents 103 l) D2 i cap (ptrs l)) (fun (q, k) => p.nm.length - q) (0, 0) ?_ (fCX (fN _)) ?_
   ·exact ⟨by omega, by omega, by simp, O⟩
   ·rintro ⟨q, k⟩ ρx w7 ⟨hqq, hk, hus, O⟩
    have H := O.sh
    refine sq ?_
    refine rg ?_
    refine nxt H rfl rfl ?_
    intro w8 H1 F; replace O := O.put F H1.look; clear H H1 F; have H := O.sh
    refine xt rfl (next0 _ _) rfl ?_
    refine nl ?_
    refine then_n ?_
    refine sq ?_
    refine cd rfl (fun hc2 => ?_) (fun hc2 => ?_)
    ·have hlt : q < p.nm.length := by assumption
     rw [nextP_of hlt] at O H
     obtain ⟨r1, r2, r3, r4, r5, r6, _⟩ := rune_at hlt
     rw [List.length_drop] at r2
     have hua := units_at hlt
     refine sk ?_
     refine then_n ?_
     refine bk ?_
     refine sq ?_
     refine rg ?_
     refine xt rfl (next2 (by omega)) rfl ?_
     refine asg (v := .int .i32 _) rfl rfl ?_
     refine nl ?_
     refine then_n ?_
     refine sq ?_
     refine rg ?_
     refine mv (v := .int .i64 _) rfl rfl ?_
     refine add rfl rfl (by first | exact w_i64 (by omega) | exact w_i64 (rng_i64 _) | rfl) rfl ?_
     refine asg (v := .int .i64 _) rfl rfl ?_
     refine nl ?_
     refine then_n ?_
     refine sq ?_
     refine rg ?_
     refine mv (v := .int .i32 _) rfl rfl ?_
     refine gtr rfl rfl rfl ?_
     refine nl ?_
     refine then_n ?_
     refine cd rfl (fun hc3 => ?_) (fun hc3 => ?_)
     ·have hu2 := u16_two (c := (rune1 (p.nm.drop q)).1) (by omega)
      refine rg ?_
      refine mv (v := .int .i64 _) rfl rfl ?_
      refine add rfl rfl (by first | exact w_i64 (by omega) | exact w_i64 (rng_i64 _) | rfl) rfl ?_
      refine asg (v := .int .i64 _) rfl rfl ?_
      refine nl ?_
      refine in_n ?_
      refine loop_n ?_
      exact ⟨(q + (rune1 (p.nm.drop q)).2, k + 2), (by (try dsimp only); omega), ⟨by omega, by omega, by omega, O⟩, (fCX (fN _)), agX⟩
     ·have hu1 := u16_one (c := (rune1 (p.nm.drop q)).1) (by omega)
      refine sk ?_
      refine in_n ?_
      refine loop_n ?_
      exact ⟨(q + (rune1 (p.nm.drop q)).2, k + 1), (by (try dsimp only); omega), ⟨by omega, by omega, by omega, O⟩, (fCX (fN _)), agX⟩
    ·have hue : (utf16 (p.nm.drop q)).length = 0 := units_end (by assumption)
     rw [nextP_end (by assumption)] at O H
     refine ex ?_
     refine then_e ?_
     refine loop_e ?_
     refine in_hit rfl ?_
     refine then_n ?_
     refine sq ?_
     refine rg ?_
     refine mv (v := .bool _) rfl rfl ?_
     refine mv (v := .bool _) rfl rfl ?_
     refine spL (t := 50) (b := true) rfl ?_
     refine gy rfl ?_
     refine mv (v := .int .i64 _) rfl rfl ?_
     refine gy rfl ?_
     refine leq rfl rfl rfl ?_
     refine pkT (v := .bool _) rfl rfl rfl ?_
     refine asgN (v' := .bool true) rfl (congrArg Value.bool (decide_eq_true (by omega))) rfl ?_
     refine nl ?_
     refine then_n ?_
     refine dr (by kernel_rfl) ?_
     have H := H.drew
     replace O := O.drew
     refine hold (fun w' => SH w [] w' [⟨b3, .cells p.cells.toArray 49 (0, 0), true⟩, ⟨b2, .cells (tbZ D2 i cap g pr rc).toArray 99 (0, 0), true⟩]) [27] ?_
     refine tk (i := 0) rfl (by kernel_rfl) rfl (H.subX) (fun w' H => r_mv (v := .pointer _) rfl) ?_
     refine tk (i := 1) rfl (by kernel_rfl) rfl (H.subX) (fun w' H => r_mv (v := .pointer _) rfl) ?_
     refine tk (i := 2) rfl (by kernel_rfl) rfl (H.subX) (fun w' H => r_nc rfl) ?_
     refine tk (i := 3) rfl (by kernel_rfl) rfl (H.subX) (fun w' H => r_fa rfl fo99_0) ?_
     refine tk (i := 4) rfl (by kernel_rfl) rfl (H.subX) (fun w' H => r_ld H rfl sc97 rfl) ?_
     refine tk (i := 5) rfl (by kernel_rfl) rfl (H.subX) (fun w' H => r_fa rfl fo49_0) ?_
     refine tk (i := 6) rfl (by kernel_rfl) rfl (H.subX) (fun w' H => r_ld H rfl sc3 rfl) ?_
     refine tk (i := 7) rfl (by kernel_rfl) rfl (H.subX) (fun w' H => r_fa rfl fo49_1) ?_
     refine tk (i := 8) rfl (by kernel_rfl) rfl (H.subX) (fun w' H => r_ld H rfl sc28 rfl) ?_
     refine tk (i := 9) rfl (by kernel_rfl) rfl (H.subX) (fun w' H => r_fa rfl fo49_2) ?_
     refine tk (i := 10) rfl (by kernel_rfl) rfl (H.subX) (fun w' H => r_ld H rfl sc28 rfl) ?_
     refine tk (i := 11) rfl (by kernel_rfl) rfl (H.subX) (fun w' H => r_fa rfl fo49_3) ?_
     refine tk (i := 12) rfl (by kernel_rfl) rfl (H.subX) (fun w' H => r_ld H rfl sc28 rfl) ?_
     refine tk (i := 13) rfl (by kernel_rfl) rfl (H.subX) (fun w' H => r_fa rfl fo49_4) ?_
     refine tk (i := 14) rfl (by kernel_rfl) rfl (H.subX) (fun w' H => r_ld H rfl sc9 rfl) ?_
     refine tk (i := 15) rfl (by kernel_rfl) rfl (H.subX) (fun w' H => r_fa rfl fo49_5) ?_
     refine tk (i := 16) rfl (by kernel_rfl) rfl (H.subX) (fun w' H => r_ld H rfl sc9 rfl) ?_
     refine tk (i := 17) rfl (by kernel_rfl) rfl (H.subX) (fun w' H => r_fa rfl fo49_6) ?_
     refine tk (i := 18) rfl (by kernel_rfl) rfl (H.subX) (fun w' H => r_ld H rfl sc9 rfl) ?_
     refine tk (i := 19) rfl (by kernel_rfl) rfl (H.subX) (fun w' H => r_fa rfl fo49_7) ?_
     refine tk (i := 20) rfl (by kernel_rfl) rfl (H.subX) (fun w' H => r_ld H rfl sc28 rfl) ?_
     refine tkbu (out := ?o2) (i := 21) rfl (by kernel_rfl) rfl (H.subX) ze103 bo103 ?f2 ?_
     case f2 =>
      refine FL.one (v := .int .i64 _) rfl pl103_0 rfl (by first | decide | simp) ?_
      refine FL.one (v := .int .u64 _) rfl pl103_1 rfl (by first | decide | simp) ?_
      refine FL.one (v := .int .u64 _) rfl pl103_2 rfl (by first | decide | simp) ?_
      refine FL.one (v := .int .u64 _) rfl pl103_3 rfl (by first | decide | simp) ?_
      refine FL.one (v := .string _) rfl pl103_4 rfl (by first | decide | simp) ?_
      refine FL.one (v := .string _) rfl pl103_5 rfl (by first | decide | simp) ?_
      refine FL.one (v := .string _) rfl pl103_6 rfl (by first | decide | simp) ?_
      refine FL.one (v := .int .u64 _) rfl pl103_7 rfl (by first | decide | simp) ?_
      exact FL.nil
     refine fk (i := 22) (by kernel_rfl) rfl rfl rfl ?_
     refine bx (v := .agg _) H rfl rfl rfl ?_
     intro b5 w9 hb5 H1 F; replace O := O.new F hb5 H1.look; clear H H1 F; have H := O.sh
     refine nl ?_
     refine then_n ?_
     refine ⟨H.subX, ?_⟩
     refine fk (i := 23) (by kernel_rfl) rfl rfl rfl ?_
     refine bsl (sz := 1) (out := ?o3) H Tryd.underlying97 ze100 sz100_1 (by decide) ?f3 rfl ?_
     case f3 =>
      refine FS.one (v := .pointer _) rfl rfl rfl (by first | decide | simp) ?_
      exact FS.nil
     intro b6 w10 hb6 H1 F; replace O := O.new F hb6 H1.look; clear H H1 F; have H := O.sh
     refine nl ?_
     refine then_n ?_
     refine ⟨H.subX, ?_⟩
     refine fk (i := 24) (by kernel_rfl) rfl rfl rfl ?_
     refine apO (zs := [.pointer none]) [.pointer (some ⟨_, 0, none⟩)] O rfl rfl Tryd.underlying97 ri100 rfl (cells_look H.look) (by simp [Value.oneCell']) (by simp) (by omega) (by unfold maxLen; omega) rfl ?_
     clear O H; intro A9 cp9 w11 O
     have H := O.sh
     refine nl ?_
     refine then_n ?_
     refine ⟨H.subX, ?_⟩
     refine fk (i := 25) (by kernel_rfl) rfl rfl rfl ?_
     refine nc rfl rfl ?_
     refine nl ?_
     refine then_n ?_
     refine ⟨H.subX, ?_⟩
     refine tk (i := 26) rfl (by kernel_rfl) rfl (H.subX) (fun w' H => r_fa rfl fo99_0) ?_
     refine fb (i := 27) (by kernel_rfl) rfl rfl rfl ?_
     refine st (v := .slice _ _ _) H rfl rfl sc97 rfl (by show 0 + 0 < 15; decide) (by omega) ?_
     intro w95 H1 F; replace O := O.put F H1.look; clear H H1 F; have H := O.sh
     refine nl ?_
     refine then_n ?_
     refine dn (by kernel_rfl) ?_
     refine in_n ?_
     refine then_n ?_
     refine rg ?_
     refine add rfl rfl (by first | exact w_i64 (by omega) | exact w_i64 (rng_i64 _) | rfl) rfl ?_
     refine mv (v := .int .i64 _) rfl rfl ?_
     refine nl ?_
     refine loop_n ?_
     exact ⟨(i + 1, A9, cp9, l ++ [(_, pcW p)]), (by (try dsimp only); omega), ⟨by omega, by simp [hll], snd_snoc hro hpi, fun h => by omega, by rw [ptrs_snoc]; exact (O.subX).perm (perm_snoc2 _ _)⟩, (fCX (fCX (fN _))), agX⟩
  ·refine ex ?_
   refine then_e ?_
   refine loop_e ?_
   refine in_hit rfl ?_
   refine then_n ?_
   refine sq ?_
   refine rg ?_
   refine mv (v := .pointer _) rfl rfl ?_
   refine mv (v := .bool _) rfl rfl ?_
   refine asg (v := .pointer _) rfl rfl ?_
   refine asg (v := .bool _) rfl rfl ?_
   refine nl ?_
   refine then_n ?_
   refine rt ?_
   refine fin_r ?_
   obtain rfl : i = m := by omega
   rw [List.take_of_length_le (by omega)] at hro
   refine ⟨b2, D2, cap, l, rfl, hro, hll, hA0, fun h => ?_, O.subX⟩
   exact O.some_of (by omega)
end Go.Proofs.YthcaejaaalkglaaDoor.X
/- Partitions of the package's own kind compared. -/
namespace Go.Proofs.YthcaejaaalkglaaDoor.X
open Go Go.RowKit
set_option linter.unusedVariables false
set_option linter.unusedSimpArgs false
def okF (P : Program) (i : Nat) : List Field → List Bool → Bool
 | [], [] => true
 | f :: fs, k :: ks => (f.name != "_") && f.offset == i && (match P.underlying f.type with | some (.int _) => k | some .string => !k | _ => false) && scalarB P f.type && okF P (i + 1) fs ks
 | _, _ => false
def pairK (xs ys : List Value) (n : Nat) (k : Bool) : Prop :=
 (k = true ∧ ∃ q a b, xs[n]? = some (.int q a) ∧ ys[n]? = some (.int q b)) ∨ (k = false ∧ ∃ a b : ByteArray, xs[n]? = some (.string a) ∧ ys[n]? = some (.string b))
theorem drop_cons {xs : List Value} {i : Nat} {v : Value} (h : xs[i]? = some v) : xs.drop i = v :: xs.drop (i + 1) := by
 obtain ⟨hi, e⟩ := List.getElem?_eq_some_iff.1 h
 rw [List.drop_eq_getElem_cons hi, e]
theorem ba_beq (a b : ByteArray) : (a == b) = true ↔ a = b := by
 obtain ⟨⟨x⟩⟩ := a
 obtain ⟨⟨y⟩⟩ := b
 show ((⟨x⟩ : Array UInt8) == ⟨y⟩) = true ↔ _
 simp
theorem run_eqF {P : Program} {w : World} {d : Nat} {xs ys : List Value} : ∀ (fs : List Field) (ks : List Bool) (i : Nat), okF P i fs ks = true → xs.length = i + ks.length → ys.length = i + ks.length → (∀ j, j < ks.length → pairK xs ys (i + j) (ks.getD j true)) →
  ∃ r, (Op.eqFields (d + 1) xs.toArray ys.toArray fs).run P w = .ok r w ∧ (r = true ↔ xs.drop i = ys.drop i)
 | [], [], i, _, hx, hy, _ => ⟨true, by simp [Op.eqFields], by rw [List.drop_of_length_le (by simp at hx; omega), List.drop_of_length_le (by simp at hy; omega)]; simp⟩
 | [], k :: ks, i, h, _, _, _ => by simp [okF] at h
 | f :: fs, [], i, h, _, _, _ => by simp [okF] at h
 | f :: fs, k :: ks, i, h, hx, hy, hp => by
  simp only [okF, Bool.and_eq_true, bne_iff_ne, beq_iff_eq] at h
  obtain ⟨⟨⟨⟨hn, ho⟩, hu⟩, hs⟩, hr⟩ := h
  simp only [List.length_cons] at hx hy
  obtain ⟨r, h1, h2⟩ := run_eqF (w := w) (d := d) (xs := xs) (ys := ys) fs ks (i + 1) hr (by omega) (by omega) (fun j hj => by
   have := hp (j + 1) (by simp only [List.length_cons]; omega)
   rw [List.getD_cons_succ] at this
   rw [show i + 1 + j = i + (j + 1) by omega]; exact this)
  have h0 := hp 0 (by simp)
  rw [List.getD_cons_zero, Nat.add_zero] at h0
  have hpart : ∀ (l : List Value) (v : Value), l[i]? = some v → (part f.type l.toArray f.offset).run P w = .ok v w := fun l v hl => by
   rw [ho]; simp [part, run_isAgg_scalar hs, hl]
  rcases h0 with ⟨rfl, q, a, b, e1, e2⟩ | ⟨rfl, a, b, e1, e2⟩
  ·cases hq : P.underlying f.type with
   | none => rw [hq] at hu; simp at hu
   | some t =>
    rw [hq] at hu
    cases t <;> simp at hu
    rename_i q'
    have he := run_equalIn_int w d f.type q q' a b hq
    by_cases hab : a = b
    ·refine ⟨r, ?_, ?_⟩
     ·simp only [Op.eqFields, if_pos hn, Sem.run_bind, hpart xs _ e1, hpart ys _ e2, Result.andThen_ok, he, Sem.run_ite]
      rw [show (a == b) = true by simpa using hab]
      simpa using h1
     ·rw [drop_cons e1, drop_cons e2, hab, h2]; simp
    ·refine ⟨false, ?_, ?_⟩
     ·simp only [Op.eqFields, if_pos hn, Sem.run_bind, hpart xs _ e1, hpart ys _ e2, Result.andThen_ok, he, Sem.run_ite]
      rw [show (a == b) = false by simpa using hab]
      simp
     ·rw [drop_cons e1, drop_cons e2]; simp [hab]
  ·cases hq : P.underlying f.type with
   | none => rw [hq] at hu; simp at hu
   | some t =>
    rw [hq] at hu
    cases t <;> simp at hu
    have he := run_equalIn_string w d f.type a b hq
    have hbl : (a.toList == b.toList) = decide (a = b) := by rw [← beq_toListBytes, Bool.eq_iff_iff]; simp only [decide_eq_true_eq]; exact ba_beq a b
    rw [hbl] at he
    by_cases hab : a = b
    ·refine ⟨r, ?_, ?_⟩
     ·simp only [Op.eqFields, if_pos hn, Sem.run_bind, hpart xs _ e1, hpart ys _ e2, Result.andThen_ok, he, Sem.run_ite]
      rw [decide_eq_true hab]
      simpa using h1
     ·rw [drop_cons e1, drop_cons e2, hab, h2]; simp
    ·refine ⟨false, ?_, ?_⟩
     ·simp only [Op.eqFields, if_pos hn, Sem.run_bind, hpart xs _ e1, hpart ys _ e2, Result.andThen_ok, he, Sem.run_ite]
      rw [decide_eq_false hab]
      simp
     ·rw [drop_cons e1, drop_cons e2]; simp [hab]
def ksW : List Bool := [true, true, true, true, false, false, false, true, true, true]
def eqPT (p q : GP) : Bool := decide (p.ix = q.ix) && (decide (p.st = q.st) && (decide (p.en = q.en) && (decide (p.sz = q.sz) && (decide (p.ty = q.ty) && (decide (p.nm = q.nm) && (decide (p.gu = q.gu) && decide (p.att = q.att)))))))
theorem str_iff {a b : List UInt8} : str a = str b ↔ a = b := ⟨fun h => by simpa [str] using h, fun h => h ▸ rfl⟩
theorem eqPT_iff (p q : GP) : eqPT p q = true ↔ (pcW p).drop 0 = (pcW q).drop 0 := by
 simp [eqPT, pcW, GP.cells, str_iff, and_assoc]
theorem pairW (p q : GP) : ∀ j, j < ksW.length → pairK (pcW p) (pcW q) (0 + j) (ksW.getD j true) := by
 intro j hj
 match j, hj with
 | 0, _ => exact .inl ⟨rfl, _, _, _, rfl, rfl⟩
 | 1, _ => exact .inl ⟨rfl, _, _, _, rfl, rfl⟩
 | 2, _ => exact .inl ⟨rfl, _, _, _, rfl, rfl⟩
 | 3, _ => exact .inl ⟨rfl, _, _, _, rfl, rfl⟩
 | 4, _ => exact .inr ⟨rfl, _, _, rfl, rfl⟩
 | 5, _ => exact .inr ⟨rfl, _, _, rfl, rfl⟩
 | 6, _ => exact .inr ⟨rfl, _, _, rfl, rfl⟩
 | 7, _ => exact .inl ⟨rfl, _, _, _, rfl, rfl⟩
 | 8, _ => exact .inl ⟨rfl, _, _, _, rfl, rfl⟩
 | 9, _ => exact .inl ⟨rfl, _, _, _, rfl, rfl⟩
section steps
variable {P : Program} {n : Nat} {ops : Array Oper} {Q : Post} {rest : List Oper} {ρ : Env} {w : World} {ty : TypeId} {pos : String} {af : Array Edge} {d : Nat}
theorem r_neqS {t u : TypeId} {x y : Operand} {p q : GP} {dd : Option Nat} {gg : Option (Nat × Bool)} (hx : ev ρ x = .agg (pcW p).toArray) (hy : ev ρ y = .agg (pcW q).toArray) (hg : P.eqGuardType P.depth t = false) (hu : P.underlying t = some (.struct (P.fieldsOf t))) (hp : P.stoodInHeld t = false) (hk : okF P 0 (P.fieldsOf t).toList ksW = true) : (execOp (ev ρ) ⟨dd, .binOp .neq t x y u, ty, pos, af, gg⟩).run P w = .ok (.value (.bool (!(eqPT p q)))) w := by
 have h := run_eqGuard_agg (P := P) w .neq t x y (pcW p).toArray (pcW q).toArray hg
 obtain ⟨r, h1, h2⟩ := run_eqF (P := P) (w := w) (d := 9998) (xs := pcW p) (ys := pcW q) (P.fieldsOf t).toList ksW 0 hk rfl rfl (pairW p q)
 have hr : r = eqPT p q := by rw [Bool.eq_iff_iff]; exact h2.trans (eqPT_iff p q).symm
 subst hr
 have e2 : (binOp .neq t (.agg (pcW p).toArray) (.agg (pcW q).toArray)).run P w = .ok (.bool (!(eqPT p q))) w := by
  rw [run_neq_struct, show (10000 : Nat) = 9999 + 1 from rfl, run_equalIn_struct w 9999 t _ _ hu hp, show (9999 : Nat) = 9998 + 1 from rfl, h1]
  rfl
 simp only [execOp, hx, hy, Sem.run_bind, h, Result.andThen_ok, e2, Sem.run_pure, Sem.run_map]
end steps
def cmpP (ps qs : List GP) : Bool := decide (ps.length = qs.length) && (ps.zip qs).all fun x => eqPT x.1 x.2
theorem cmpP_t {ps qs : List GP} (h2 : ps.length = qs.length) (h3 : ∀ j p q, j < ps.length → ps[j]? = some p → qs[j]? = some q → eqPT p q = true) : cmpP ps qs = true := by
 unfold cmpP
 rw [decide_eq_true h2, Bool.true_and, List.all_eq_true]
 intro x hx
 obtain ⟨j, hj, e⟩ := List.mem_iff_getElem.1 hx
 rw [List.getElem_zip] at e
 have hj' : j < ps.length ∧ j < qs.length := by rw [List.length_zip] at hj; omega
 exact h3 j x.1 x.2 hj'.1 (by rw [List.getElem?_eq_getElem hj'.1, ← e]) (by rw [List.getElem?_eq_getElem hj'.2, ← e])
theorem cmpP_f {ps qs : List GP} {j : Nat} {p q : GP} (hp : ps[j]? = some p) (hq : qs[j]? = some q) (h3 : eqPT p q = false) : cmpP ps qs = false := by
 unfold cmpP
 obtain ⟨a1, a2⟩ := List.getElem?_eq_some_iff.1 hp
 obtain ⟨c1, c2⟩ := List.getElem?_eq_some_iff.1 hq
 have : ((ps.zip qs).all fun x => eqPT x.1 x.2) = false := by
  rw [List.all_eq_false]
  refine ⟨(p, q), ?_, by simp [h3]⟩
  rw [List.mem_iff_getElem]
  exact ⟨j, by simp; omega, by rw [List.getElem_zip, a2, c2]⟩
 rw [this]; simp
theorem cmpP_l {ps qs : List GP} (h : ps.length ≠ qs.length) : cmpP ps qs = false := by unfold cmpP; rw [decide_eq_false h]; rfl
theorem cmpP_next {ps qs : List GP} {i : Nat} {p q : GP} (h : ∀ j p q, j < i → ps[j]? = some p → qs[j]? = some q → eqPT p q = true) (hp : ps[i]? = some p) (hq : qs[i]? = some q) (h2 : eqPT p q = true) : ∀ j p q, j < i + 1 → ps[j]? = some p → qs[j]? = some q → eqPT p q = true := fun j p' q' hj h1 h3 => by
 rcases Nat.lt_or_ge j i with h4 | h4
 ·exact h j p' q' h4 h1 h3
 ·obtain rfl : j = i := by omega
  rw [hp] at h1; rw [hq] at h3
  cases h1; cases h3; exact h2
theorem heap_cells {w : World} {b : Nat} {cs : List Value} {T : TypeId} {f : Nat × Nat} (h : w.heap[b]? = some (.cells cs.toArray T f)) : ∀ j v, cs[j]? = some v → w.cell? ((⟨b, 0, none⟩ : Addr).add j) = some v := fun j v hv => by
 rw [Addr.add_lit, Nat.zero_add]
 exact (cell_at h).trans hv
structure PW (T : TypeId) (w : World) (D : Option Addr) (m : Nat) (l : PL) (ps : List GP) : Prop where
 pr : PR T w D l
 eq : l.map Prod.snd = ps.map pcW
 len : l.length = m
 nil : m = 0 → D = none
 some_of : m ≠ 0 → ∃ ad, D = some ad
theorem PW.plen {T : TypeId} {w : World} {D : Option Addr} {m : Nat} {l : PL} {ps : List GP} (h : PW T w D m l ps) : ps.length = m := by
 have := congrArg List.length h.eq
 simp at this; rw [← this]; exact h.len
theorem PW.keep {T : TypeId} {w w' : World} {D : Option Addr} {m : Nat} {l : PL} {ps : List GP} (h : PW T w D m l ps) (f : Fr [] w w') : PW T w' D m l ps := ⟨h.pr.keep f, h.eq, h.len, h.nil, h.some_of⟩
theorem PW.at {T : TypeId} {w : World} {ad : Addr} {m : Nat} {l : PL} {ps : List GP} (h : PW T w (some ad) m l ps) {i : Nat} (hi : i < m) : ∃ b p, ps[i]? = some p ∧ w.cell? (ad.add i) = some (.pointer (some ⟨b, 0, none⟩)) ∧ w.heap[b]? = some (.cells (pcW p).toArray T (0, 0)) := by
 have hl := h.plen
 obtain ⟨x, hx⟩ : ∃ x, l[i]? = some x := ⟨_, List.getElem?_eq_getElem (by have := h.len; omega)⟩
 obtain ⟨p, hp⟩ : ∃ p, ps[i]? = some p := ⟨_, List.getElem?_eq_getElem (by omega)⟩
 obtain ⟨ad', e, h1, h2⟩ := h.pr i x hx
 cases e
 have e2 := congrArg (fun m => m[i]?) h.eq
 simp [hx, hp] at e2
 exact ⟨x.1, p, hp, h1, e2 ▸ h2⟩
end Go.Proofs.YthcaejaaalkglaaDoor.X
/- A region of quiet operations, taken in the order in which they stand. -/
namespace Go.Proofs.YthcaejaaalkglaaDoor.X
set_option linter.unusedVariables false
open Go
def lk (N k : Nat) : Array Bool := (List.replicate k true ++ List.replicate (N - k) false).toArray
theorem relA {P : Program} {n m : Nat} {ops : Array Oper} {Q : Post} {ρ : Env} {w : World} {S : World → Prop} {B : List Nat} {listed listed' : Array Bool} (h : listed = listed') (k : wa P n ops Q S B m listed' ρ w) : wa P n ops Q S B m listed ρ w := h ▸ k
end Go.Proofs.YthcaejaaalkglaaDoor.X
