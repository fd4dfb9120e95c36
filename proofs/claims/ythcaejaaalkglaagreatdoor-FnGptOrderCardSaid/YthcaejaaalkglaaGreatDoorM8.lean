/- Laws and walks on the road to the statement: P31, P32, GptStand, P33, P34, P35, TabRow, P36, WritePure, P37, P38, WritePure2. -/
import Derived.Test.YthcaejaaalkglaaGreatDoorM7
/- Walks of functions, printed by a program of this claim. -/
namespace Go.Proofs.YthcaejaaalkglaaGreatDoor.X
set_option linter.unusedVariables false
set_option linter.unusedSimpArgs false
open Go Go.RowKit

namespace PF
theorem ca24 : callable Tryz.prog 24 = true := by kernel_rfl
theorem ca25 : callable Tryz.prog 25 = true := by kernel_rfl
end PF
open PF

set_option maxRecDepth 100000 in
set_option maxHeartbeats 4000000 in
theorem c_good (w : World) (D : Option Addr) (m c : Nat) (g : List UInt8) (pr rc : Bool) (ps : List GP) (hq : RG w D m c ps) (hU : Utf8W w) (n : Nat) (hn : 80 ≤ n ∧ n ≤ 1000000) (hft : ∀ p ∈ ps, p.fit) : Calls Tryz.prog 9 #[.agg (gtCells D m c 512 g pr rc).toArray, .int .u64 (n : Int)] w (Ret fun v w' => ∃ b, v = .bool b ∧ Fr [] w w' ∧ (b = true → gOk g = true ∧ m ≤ 128 ∧ goodL n ps)) := by
 refine enter (fun ρ => ρ 4) Tryz.func9 rfl rfl rfl (res1 rfl) ?_
 have H := SH.nil w
 have hql := hq.len
 have hcap : c ≤ 9223372036854775807 := by have := hq.cap.2; unfold maxLen at this; omega
 have hcap1 := hq.cap.1
 refine sq ?_
 refine rg ?_
 refine bx (v := .agg _) H rfl rfl rfl ?_
 clear H; intro b1 w1 hb1 H _
 refine asg (v := .bool _) rfl rfl ?_
 refine nl ?_
 refine then_n ?_
 refine sq ?_
 refine rg ?_
 refine fa rfl fo24_1 rfl ?_
 refine ld H rfl sc3 rfl rfl ?_
 refine cl ca21 (c_tabSectors _) rfl ?_
 rintro _ w2 ⟨rfl, F⟩
 replace H := H.keep F; clear F
 refine asg (v := .int .u64 _) rfl rfl ?_
 refine nl ?_
 refine then_n ?_
 refine sq ?_
 refine sq ?_
 refine rg ?_
 refine fa rfl fo24_2 rfl ?_
 refine ld H rfl sc9 rfl rfl ?_
 refine cl ca22 (c_guidBytes _ _) rfl ?_
 rintro _ w3 ⟨rfl, F⟩
 replace H := H.keep F; clear F
 refine mv (v := .tuple _) rfl rfl ?_
 refine xt rfl rfl rfl ?_
 refine xt rfl rfl rfl ?_
 refine al H ze50 rfl ?_
 clear H; intro b2 w4 hb2 H _
 refine sa (cs' := Bs (gB g)) H rfl rfl ag50_16 (by rw [Bs_length, gB_len]) (List.all_eq_true.2 Bs_one) (by decide) (by omega) (List.append_nil _) ?_
 clear H; intro w91 H _
 refine asg (v := .bool _) rfl rfl ?_
 refine nl ?_
 refine then_n ?_
 refine sq ?_
 refine rg ?_
 refine mv (v := .bool _) rfl rfl ?_
 refine unot rfl rfl ?_
 refine mv (v := .bool _) rfl rfl ?_
 refine sp (t := 29) rfl (fun hg1 => ?_) (fun hg1 => ?_)
 ·refine gn rfl rfl ?_
  refine gn rfl rfl ?_
  refine gn rfl rfl ?_
  refine pkT (v := .bool _) rfl rfl rfl ?_
  refine mv (v := .bool _) rfl rfl ?_
  refine gn rfl rfl ?_
  refine gn rfl rfl ?_
  refine gn rfl rfl ?_
  refine gn rfl rfl ?_
  refine gn rfl rfl ?_
  refine pkT (v := .bool _) rfl rfl rfl ?_
  refine mv (v := .bool _) rfl rfl ?_
  refine gn rfl rfl ?_
  refine gn rfl rfl ?_
  refine gn rfl rfl ?_
  refine gn rfl rfl ?_
  refine pkT (v := .bool _) rfl rfl rfl ?_
  refine nl ?_
  refine then_n ?_
  refine cbT rfl rfl ?_
  refine sq ?_
  refine rg ?_
  refine asg (v := .bool _) rfl rfl ?_
  refine nl ?_
  refine then_n ?_
  refine rt ?_
  refine then_r ?_
  refine fin_r ?_
  exact ⟨false, rfl, H.fr, fun h => by exact Bool.noConfusion h⟩
 ·refine gy rfl ?_
  refine fa rfl fo24_1 rfl ?_
  refine gy rfl ?_
  refine ld H rfl sc3 rfl rfl ?_
  refine gy rfl ?_
  refine lss rfl rfl rfl ?_
  refine pkF (v := .bool _) rfl rfl rfl ?_
  refine mv (v := .bool _) rfl rfl ?_
  refine spd (t := 34) rfl (fun hg2 => ?_) (fun hg2 => ?_)
  ·refine gn rfl rfl ?_
   refine gn rfl rfl ?_
   refine gn rfl rfl ?_
   refine gn rfl rfl ?_
   refine gn rfl rfl ?_
   refine pkT (v := .bool _) rfl rfl rfl ?_
   refine mv (v := .bool _) rfl rfl ?_
   refine gn rfl rfl ?_
   refine gn rfl rfl ?_
   refine gn rfl rfl ?_
   refine gn rfl rfl ?_
   refine pkT (v := .bool _) rfl rfl rfl ?_
   refine nl ?_
   refine then_n ?_
   refine cbT rfl rfl ?_
   refine sq ?_
   refine rg ?_
   refine asg (v := .bool _) rfl rfl ?_
   refine nl ?_
   refine then_n ?_
   refine rt ?_
   refine then_r ?_
   refine fin_r ?_
   exact ⟨false, rfl, H.fr, fun h => by exact Bool.noConfusion h⟩
  ·refine gy rfl ?_
   refine mv (v := .int .u64 _) rfl rfl ?_
   refine gy rfl ?_
   refine mv (v := .int .u64 _) rfl rfl ?_
   refine gy rfl ?_
   refine mul rfl rfl (by first | exact w_u64 (by omega) | exact w_u64 (rng_u64 _) | exact m_u64 _) rfl ?_
   refine gy rfl ?_
   refine add rfl rfl (by first | exact w_u64 (by omega) | exact w_u64 (rng_u64 _) | exact m_u64 _) rfl ?_
   refine gy rfl ?_
   refine lss rfl rfl rfl ?_
   refine pkF (v := .bool _) rfl rfl rfl ?_
   refine mv (v := .bool _) rfl rfl ?_
   refine spd (t := 41) rfl (fun hg3 => ?_) (fun hg3 => ?_)
   ·refine gn rfl rfl ?_
    refine gn rfl rfl ?_
    refine gn rfl rfl ?_
    refine gn rfl rfl ?_
    refine pkT (v := .bool _) rfl rfl rfl ?_
    refine nl ?_
    refine then_n ?_
    refine cbT rfl rfl ?_
    refine sq ?_
    refine rg ?_
    refine asg (v := .bool _) rfl rfl ?_
    refine nl ?_
    refine then_n ?_
    refine rt ?_
    refine then_r ?_
    refine fin_r ?_
    exact ⟨false, rfl, H.fr, fun h => by exact Bool.noConfusion h⟩
   ·refine gy rfl ?_
    refine fa rfl fo24_0 rfl ?_
    refine gy rfl ?_
    refine ld H rfl sc22 rfl rfl ?_
    refine gy rfl ?_
    refine lnS rfl Tryz.underlying22 rfl ?_
    refine gy rfl ?_
    refine gtr rfl rfl rfl ?_
    refine pkF (v := .bool _) rfl rfl rfl ?_
    refine nl ?_
    refine then_n ?_
    refine cd rfl (fun hc1 => ?_) (fun hc1 => ?_)
    ·refine sq ?_
     refine rg ?_
     refine asg (v := .bool _) rfl rfl ?_
     refine nl ?_
     refine then_n ?_
     refine rt ?_
     refine then_r ?_
     refine fin_r ?_
     exact ⟨false, rfl, H.fr, fun h => by exact Bool.noConfusion h⟩
    ·refine sk ?_
     refine then_n ?_
     refine sq ?_
     refine sq ?_
     refine rg ?_
     refine fa rfl fo24_0 rfl ?_
     refine ld H rfl sc22 rfl rfl ?_
     refine lnS rfl Tryz.underlying22 rfl ?_
     refine mv (v := .int .i64 _) rfl rfl ?_
     refine nl ?_
     refine then_n ?_
     refine bk ?_
     refine lpM (α := Nat) [4, 8, 9, 10, 11, 12, 13, 15, 17, 50, 51, 52, 53, 54, 55, 56, 57, 58, 59, 60, 61, 62, 63, 64, 65, 66, 67, 68, 69, 70, 71, 72, 73, 74, 75, 76, 77, 78, 79, 80, 81, 82, 83, 84, 85, 86, 87, 88, 89, 90, 91, 92, 93, 94, 95, 96, 97, 98, 99, 100, 101, 102, 103, 104, 105, 106, 107, 108, 109, 110, 111, 112, 113, 114, 115, 116, 117, 118, 119, 120, 121, 122, 123, 124, 125, 126, 127, 128, 129, 130, 131, 132, 133, 134, 135, 136, 137, 138, 139, 140, 141, 142, 143, 144, 145, 146, 147, 148, 149, 150, 151, 152, 153, 154, 155, 156, 157, 158, 159, 160, 161, 162, 163, 164, 165, 166, 167, 168, 169, 170, 171, 172, 173, 174, 175, 176, 177, 178, 179, 180, 181, 182, 183, 184, 185, 186, 187, 188, 189, 190, 191, 192, 193, 194, 195, 196, 197, 198] (fun i => [(50, .int .i64 (i : Int))]) (fun i w' => i ≤ m ∧ (∀ j q, j < i → ps[j]? = some q → q.good n) ∧ ordTo ps i ∧ SH w [] w' [⟨b2, .cells (Bs (gB g)).toArray 50 (0, 0), true⟩, ⟨b1, .cells (gtCells D m c 512 g pr rc).toArray 24 (0, 0), true⟩]) (fun i => m - i) 0 ?_ (fC (by first | rfl | exact congrArg (Value.int _) (by first | omega | assumption | (symm; assumption) | (simp; done) | (simp; omega)) | exact congrArg (fun n => Value.slice _ n _) (by first | omega | (simp; done) | (simp; omega))) (fN _)) ?_
     ·exact ⟨by omega, fun j p hj => by omega, fun j q r hj => by omega, H⟩
     ·rintro i ρx w5 ⟨hi, hs, ho, H⟩
      refine sq ?_
      refine rg ?_
      refine lss rfl rfl rfl ?_
      refine nl ?_
      refine then_n ?_
      refine sq ?_
      refine cd rfl (fun hc2 => ?_) (fun hc2 => ?_)
      ·obtain ⟨p, hpi⟩ : ∃ p, ps[i]? = some p := ⟨_, List.getElem?_eq_getElem (by omega)⟩
       obtain ⟨ad, rfl⟩ := hq.some_of (by omega)
       have hpm := List.mem_of_getElem? hpi
       obtain ⟨o1, o2, o3, o4, o5⟩ := hq.ok p hpm
       have hnl := (hft p hpm).nm
       refine sk ?_
       refine then_n ?_
       refine sq ?_
       refine bk ?_
       refine sq ?_
       refine rg ?_
       refine mv (v := .int .i64 _) rfl rfl ?_
       refine iBN (ad.add (i * 8)) rfl rfl Tryz.underlying22 sz54_8 (by omega) (by simp) rfl ?_
       refine lw (vs := p.cells) rfl ag54_8 rfl (fun j v h => H.fr.cell (hq.elem hpi j v h) (by simp)) rfl ?_
       refine al H ze54 rfl ?_
       clear H; intro b3 w6 hb3 H _
       refine asg (v := .int .i64 _) rfl rfl ?_
       refine sa (cs' := p.cells) H rfl rfl ag54_8 rfl rfl (by decide) (by omega) rfl ?_
       clear H; intro w35 H _
       refine nl ?_
       refine then_n ?_
       refine sq ?_
       refine rg ?_
       refine fa rfl fo54_4 rfl ?_
       refine ld H rfl sc9 rfl rfl ?_
       refine cl ca22 (c_guidBytes _ _) rfl ?_
       rintro _ w7 ⟨rfl, F⟩
       replace H := H.keep F; clear F
       refine mv (v := .tuple _) rfl rfl ?_
       refine xt rfl rfl rfl ?_
       refine xt rfl rfl rfl ?_
       refine al H ze50 rfl ?_
       clear H; intro b4 w8 hb4 H _
       refine sa (cs' := Bs (gB p.ty)) H rfl rfl ag50_16 (by rw [Bs_length, gB_len]) (List.all_eq_true.2 Bs_one) (by decide) (by omega) (List.append_nil _) ?_
       clear H; intro w92 H _
       refine asg (v := .bool _) rfl rfl ?_
       refine nl ?_
       refine then_n ?_
       refine sq ?_
       refine rg ?_
       refine fa rfl fo54_6 rfl ?_
       refine ld H rfl sc9 rfl rfl ?_
       refine cl ca22 (c_guidBytes _ _) rfl ?_
       rintro _ w9 ⟨rfl, F⟩
       replace H := H.keep F; clear F
       refine mv (v := .tuple _) rfl rfl ?_
       refine xt rfl rfl rfl ?_
       refine xt rfl rfl rfl ?_
       refine al H ze50 rfl ?_
       clear H; intro b5 w10 hb5 H _
       refine sa (cs' := Bs (gB p.gu)) H rfl rfl ag50_16 (by rw [Bs_length, gB_len]) (List.all_eq_true.2 Bs_one) (by decide) (by omega) (List.append_nil _) ?_
       clear H; intro w93 H _
       refine asg (v := .bool _) rfl rfl ?_
       refine nl ?_
       refine then_n ?_
       refine ctM (α := Unit) [4, 67, 68, 69, 70, 71, 72, 73, 74, 75, 76, 77, 78, 79, 80, 81, 82, 83, 84, 85, 86, 87, 88, 89, 90, 91, 92, 93, 94, 95, 96, 97, 98, 99, 100, 101, 102, 103, 104, 105, 106, 107, 108, 109, 110, 111, 112, 113, 114, 115, 116, 117, 118, 119, 120] (fun _u => []) (fun _u w' => (gOk p.ty = true ∧ gOk p.gu = true ∧ sameG p.ty zG = false ∧ sameG p.gu zG = false ∧ (utf16 p.nm).length ≤ 36 ∧ (1 ≤ p.ix ∧ p.ix ≤ 128) ∧ (∀ q, 0 < i → ps[i - 1]? = some q → q.ix < p.ix)) ∧ SH w [] w' [⟨b5, .cells (Bs (gB p.gu)).toArray 50 (0, 0), true⟩, ⟨b4, .cells (Bs (gB p.ty)).toArray 50 (0, 0), true⟩, ⟨b3, .cells p.cells.toArray 54 (0, 0), true⟩, ⟨b2, .cells (Bs (gB g)).toArray 50 (0, 0), true⟩, ⟨b1, .cells (gtCells (some ad) m c 512 g pr rc).toArray 24 (0, 0), true⟩]) ?_ ?_
       ·refine sq ?_
        refine dr (by kernel_rfl) ?_
        have H := H.drew
        refine holdH H [] ?_
        refine tk (i := 0) rfl (by kernel_rfl) rfl H (fun w' H => r_mv (v := .bool _) rfl) ?_
        refine tk (i := 1) rfl (by kernel_rfl) rfl H (fun w' H => r_unot rfl) ?_
        refine tk (i := 2) rfl (by kernel_rfl) rfl H (fun w' H => r_mv (v := .bool _) rfl) ?_
        refine spa (t := 69) rfl (fun hg4 => ?_) (fun hg4 => ?_)
        ·refine tkn (i := 3) rfl (by kernel_rfl) rfl H rfl ?_
         refine tkn (i := 4) rfl (by kernel_rfl) rfl H rfl ?_
         refine tk (i := 5) rfl (by kernel_rfl) rfl H (fun w' H => r_pkT (v := .bool _) rfl rfl) ?_
         refine tk (i := 6) rfl (by kernel_rfl) rfl H (fun w' H => r_mv (v := .bool _) rfl) ?_
         refine tkn (i := 7) rfl (by kernel_rfl) rfl H rfl ?_
         refine tkn (i := 8) rfl (by kernel_rfl) rfl H rfl ?_
         refine tkn (i := 9) rfl (by kernel_rfl) rfl H rfl ?_
         refine tk (i := 10) rfl (by kernel_rfl) rfl H (fun w' H => r_pkT (v := .bool _) rfl rfl) ?_
         refine tk (i := 11) rfl (by kernel_rfl) rfl H (fun w' H => r_mv (v := .bool _) rfl) ?_
         refine tkn (i := 12) rfl (by kernel_rfl) rfl H rfl ?_
         refine tkn (i := 13) rfl (by kernel_rfl) rfl H rfl ?_
         refine tkn (i := 14) rfl (by kernel_rfl) rfl H rfl ?_
         refine tk (i := 15) rfl (by kernel_rfl) rfl H (fun w' H => r_pkT (v := .bool _) rfl rfl) ?_
         refine tk (i := 16) rfl (by kernel_rfl) rfl H (fun w' H => r_mv (v := .bool _) rfl) ?_
         refine tkn (i := 17) rfl (by kernel_rfl) rfl H rfl ?_
         refine tkn (i := 18) rfl (by kernel_rfl) rfl H rfl ?_
         refine tkn (i := 19) rfl (by kernel_rfl) rfl H rfl ?_
         refine tkn (i := 20) rfl (by kernel_rfl) rfl H rfl ?_
         refine tk (i := 21) rfl (by kernel_rfl) rfl H (fun w' H => r_pkT (v := .bool _) rfl rfl) ?_
         refine tk (i := 22) rfl (by kernel_rfl) rfl H (fun w' H => r_mv (v := .bool _) rfl) ?_
         refine tkn (i := 23) rfl (by kernel_rfl) rfl H rfl ?_
         refine tkn (i := 24) rfl (by kernel_rfl) rfl H rfl ?_
         refine tkn (i := 25) rfl (by kernel_rfl) rfl H rfl ?_
         refine tkn (i := 26) rfl (by kernel_rfl) rfl H rfl ?_
         refine tk (i := 27) rfl (by kernel_rfl) rfl H (fun w' H => r_pkT (v := .bool _) rfl rfl) ?_
         refine tk (i := 28) rfl (by kernel_rfl) rfl H (fun w' H => r_mv (v := .bool _) rfl) ?_
         refine tkn (i := 29) rfl (by kernel_rfl) rfl H rfl ?_
         refine tkn (i := 30) rfl (by kernel_rfl) rfl H rfl ?_
         refine tkn (i := 31) rfl (by kernel_rfl) rfl H rfl ?_
         refine tk (i := 32) rfl (by kernel_rfl) rfl H (fun w' H => r_pkT (v := .bool _) rfl rfl) ?_
         refine tk (i := 33) rfl (by kernel_rfl) rfl H (fun w' H => r_mv (v := .bool _) rfl) ?_
         refine tkn (i := 34) rfl (by kernel_rfl) rfl H rfl ?_
         refine tkn (i := 35) rfl (by kernel_rfl) rfl H rfl ?_
         refine tkn (i := 36) rfl (by kernel_rfl) rfl H rfl ?_
         refine tk (i := 37) rfl (by kernel_rfl) rfl H (fun w' H => r_pkT (v := .bool _) rfl rfl) ?_
         refine tk (i := 38) rfl (by kernel_rfl) rfl H (fun w' H => r_mv (v := .bool _) rfl) ?_
         refine tkn (i := 39) rfl (by kernel_rfl) rfl H rfl ?_
         refine tkn (i := 40) rfl (by kernel_rfl) rfl H rfl ?_
         refine tkn (i := 41) rfl (by kernel_rfl) rfl H rfl ?_
         refine tknU (i := 42) rfl (by kernel_rfl) rfl H rfl ?_
         refine tknU (i := 43) rfl (by kernel_rfl) rfl H rfl ?_
         refine tknU (i := 44) rfl (by kernel_rfl) rfl H rfl ?_
         refine tknU (i := 45) rfl (by kernel_rfl) rfl H rfl ?_
         refine tknU (i := 46) rfl (by kernel_rfl) rfl H rfl ?_
         refine tknU (i := 47) rfl (by kernel_rfl) rfl H rfl ?_
         refine tknU (i := 48) rfl (by kernel_rfl) rfl H rfl ?_
         refine tknU (i := 49) rfl (by kernel_rfl) rfl H rfl ?_
         refine tknU (i := 50) rfl (by kernel_rfl) rfl H rfl ?_
         refine tknU (i := 51) rfl (by kernel_rfl) rfl H rfl ?_
         refine tkn (i := 52) rfl (by kernel_rfl) rfl H rfl ?_
         refine tk (i := 53) rfl (by kernel_rfl) rfl H (fun w' H => r_pkT (v := .bool _) rfl rfl) ?_
         refine da (by kernel_rfl) ?_
         refine then_n ?_
         refine cbT rfl rfl ?_
         refine sq ?_
         refine rg ?_
         refine asg (v := .bool _) rfl rfl ?_
         refine nl ?_
         refine then_n ?_
         refine rt ?_
         refine then_r ?_
         refine in_r ?_
         refine then_r ?_
         refine loop_r ?_
         refine in_r ?_
         refine then_r ?_
         refine fin_r ?_
         exact ⟨false, rfl, H.fr, fun h => by exact Bool.noConfusion h⟩
        ·refine tkg (i := 3) rfl (by kernel_rfl) rfl H rfl (fun w' H => r_mv (v := .bool _) rfl) ?_
         refine tkg (i := 4) rfl (by kernel_rfl) rfl H rfl (fun w' H => r_unot rfl) ?_
         refine tk (i := 5) rfl (by kernel_rfl) rfl H (fun w' H => r_pkF (v := .bool _) rfl rfl) ?_
         refine tk (i := 6) rfl (by kernel_rfl) rfl H (fun w' H => r_mv (v := .bool _) rfl) ?_
         refine spa (t := 73) rfl (fun hg5 => ?_) (fun hg5 => ?_)
         ·refine tkn (i := 7) rfl (by kernel_rfl) rfl H rfl ?_
          refine tkn (i := 8) rfl (by kernel_rfl) rfl H rfl ?_
          refine tkn (i := 9) rfl (by kernel_rfl) rfl H rfl ?_
          refine tk (i := 10) rfl (by kernel_rfl) rfl H (fun w' H => r_pkT (v := .bool _) rfl rfl) ?_
          refine tk (i := 11) rfl (by kernel_rfl) rfl H (fun w' H => r_mv (v := .bool _) rfl) ?_
          refine tkn (i := 12) rfl (by kernel_rfl) rfl H rfl ?_
          refine tkn (i := 13) rfl (by kernel_rfl) rfl H rfl ?_
          refine tkn (i := 14) rfl (by kernel_rfl) rfl H rfl ?_
          refine tk (i := 15) rfl (by kernel_rfl) rfl H (fun w' H => r_pkT (v := .bool _) rfl rfl) ?_
          refine tk (i := 16) rfl (by kernel_rfl) rfl H (fun w' H => r_mv (v := .bool _) rfl) ?_
          refine tkn (i := 17) rfl (by kernel_rfl) rfl H rfl ?_
          refine tkn (i := 18) rfl (by kernel_rfl) rfl H rfl ?_
          refine tkn (i := 19) rfl (by kernel_rfl) rfl H rfl ?_
          refine tkn (i := 20) rfl (by kernel_rfl) rfl H rfl ?_
          refine tk (i := 21) rfl (by kernel_rfl) rfl H (fun w' H => r_pkT (v := .bool _) rfl rfl) ?_
          refine tk (i := 22) rfl (by kernel_rfl) rfl H (fun w' H => r_mv (v := .bool _) rfl) ?_
          refine tkn (i := 23) rfl (by kernel_rfl) rfl H rfl ?_
          refine tkn (i := 24) rfl (by kernel_rfl) rfl H rfl ?_
          refine tkn (i := 25) rfl (by kernel_rfl) rfl H rfl ?_
          refine tkn (i := 26) rfl (by kernel_rfl) rfl H rfl ?_
          refine tk (i := 27) rfl (by kernel_rfl) rfl H (fun w' H => r_pkT (v := .bool _) rfl rfl) ?_
          refine tk (i := 28) rfl (by kernel_rfl) rfl H (fun w' H => r_mv (v := .bool _) rfl) ?_
          refine tkn (i := 29) rfl (by kernel_rfl) rfl H rfl ?_
          refine tkn (i := 30) rfl (by kernel_rfl) rfl H rfl ?_
          refine tkn (i := 31) rfl (by kernel_rfl) rfl H rfl ?_
          refine tk (i := 32) rfl (by kernel_rfl) rfl H (fun w' H => r_pkT (v := .bool _) rfl rfl) ?_
          refine tk (i := 33) rfl (by kernel_rfl) rfl H (fun w' H => r_mv (v := .bool _) rfl) ?_
          refine tkn (i := 34) rfl (by kernel_rfl) rfl H rfl ?_
          refine tkn (i := 35) rfl (by kernel_rfl) rfl H rfl ?_
          refine tkn (i := 36) rfl (by kernel_rfl) rfl H rfl ?_
          refine tk (i := 37) rfl (by kernel_rfl) rfl H (fun w' H => r_pkT (v := .bool _) rfl rfl) ?_
          refine tk (i := 38) rfl (by kernel_rfl) rfl H (fun w' H => r_mv (v := .bool _) rfl) ?_
          refine tkn (i := 39) rfl (by kernel_rfl) rfl H rfl ?_
          refine tkn (i := 40) rfl (by kernel_rfl) rfl H rfl ?_
          refine tkn (i := 41) rfl (by kernel_rfl) rfl H rfl ?_
          refine tknU (i := 42) rfl (by kernel_rfl) rfl H rfl ?_
          refine tknU (i := 43) rfl (by kernel_rfl) rfl H rfl ?_
          refine tknU (i := 44) rfl (by kernel_rfl) rfl H rfl ?_
          refine tknU (i := 45) rfl (by kernel_rfl) rfl H rfl ?_
          refine tknU (i := 46) rfl (by kernel_rfl) rfl H rfl ?_
          refine tknU (i := 47) rfl (by kernel_rfl) rfl H rfl ?_
          refine tknU (i := 48) rfl (by kernel_rfl) rfl H rfl ?_
          refine tknU (i := 49) rfl (by kernel_rfl) rfl H rfl ?_
          refine tknU (i := 50) rfl (by kernel_rfl) rfl H rfl ?_
          refine tknU (i := 51) rfl (by kernel_rfl) rfl H rfl ?_
          refine tkn (i := 52) rfl (by kernel_rfl) rfl H rfl ?_
          refine tk (i := 53) rfl (by kernel_rfl) rfl H (fun w' H => r_pkT (v := .bool _) rfl rfl) ?_
          refine da (by kernel_rfl) ?_
          refine then_n ?_
          refine cbT rfl rfl ?_
          refine sq ?_
          refine rg ?_
          refine asg (v := .bool _) rfl rfl ?_
          refine nl ?_
          refine then_n ?_
          refine rt ?_
          refine then_r ?_
          refine in_r ?_
          refine then_r ?_
          refine loop_r ?_
          refine in_r ?_
          refine then_r ?_
          refine fin_r ?_
          exact ⟨false, rfl, H.fr, fun h => by exact Bool.noConfusion h⟩
         ·refine tkg (i := 7) rfl (by kernel_rfl) rfl H rfl (fun w' H => r_fa rfl fo54_4) ?_
          refine tkg (i := 8) rfl (by kernel_rfl) rfl H rfl (fun w' H => r_ld H rfl sc9 rfl) ?_
          refine fk (i := 9) (by kernel_rfl) rfl rfl rfl ?_
          refine gy rfl ?_
          refine cl ca23 (c_sameGuid _ _ _) rfl ?_
          rintro _ w11 ⟨rfl, F⟩
          replace H := H.keep F; clear F
          refine nl ?_
          refine then_n ?_
          refine ⟨H, ?_⟩
          refine tk (i := 10) rfl (by kernel_rfl) rfl H (fun w' H => r_pkF (v := .bool _) rfl rfl) ?_
          refine tk (i := 11) rfl (by kernel_rfl) rfl H (fun w' H => r_mv (v := .bool _) rfl) ?_
          refine spa (t := 78) rfl (fun hg6 => ?_) (fun hg6 => ?_)
          ·refine tkn (i := 12) rfl (by kernel_rfl) rfl H rfl ?_
           refine tkn (i := 13) rfl (by kernel_rfl) rfl H rfl ?_
           refine tkn (i := 14) rfl (by kernel_rfl) rfl H rfl ?_
           refine tk (i := 15) rfl (by kernel_rfl) rfl H (fun w' H => r_pkT (v := .bool _) rfl rfl) ?_
           refine tk (i := 16) rfl (by kernel_rfl) rfl H (fun w' H => r_mv (v := .bool _) rfl) ?_
           refine tkn (i := 17) rfl (by kernel_rfl) rfl H rfl ?_
           refine tkn (i := 18) rfl (by kernel_rfl) rfl H rfl ?_
           refine tkn (i := 19) rfl (by kernel_rfl) rfl H rfl ?_
           refine tkn (i := 20) rfl (by kernel_rfl) rfl H rfl ?_
           refine tk (i := 21) rfl (by kernel_rfl) rfl H (fun w' H => r_pkT (v := .bool _) rfl rfl) ?_
           refine tk (i := 22) rfl (by kernel_rfl) rfl H (fun w' H => r_mv (v := .bool _) rfl) ?_
           refine tkn (i := 23) rfl (by kernel_rfl) rfl H rfl ?_
           refine tkn (i := 24) rfl (by kernel_rfl) rfl H rfl ?_
           refine tkn (i := 25) rfl (by kernel_rfl) rfl H rfl ?_
           refine tkn (i := 26) rfl (by kernel_rfl) rfl H rfl ?_
           refine tk (i := 27) rfl (by kernel_rfl) rfl H (fun w' H => r_pkT (v := .bool _) rfl rfl) ?_
           refine tk (i := 28) rfl (by kernel_rfl) rfl H (fun w' H => r_mv (v := .bool _) rfl) ?_
           refine tkn (i := 29) rfl (by kernel_rfl) rfl H rfl ?_
           refine tkn (i := 30) rfl (by kernel_rfl) rfl H rfl ?_
           refine tkn (i := 31) rfl (by kernel_rfl) rfl H rfl ?_
           refine tk (i := 32) rfl (by kernel_rfl) rfl H (fun w' H => r_pkT (v := .bool _) rfl rfl) ?_
           refine tk (i := 33) rfl (by kernel_rfl) rfl H (fun w' H => r_mv (v := .bool _) rfl) ?_
           refine tkn (i := 34) rfl (by kernel_rfl) rfl H rfl ?_
           refine tkn (i := 35) rfl (by kernel_rfl) rfl H rfl ?_
           refine tkn (i := 36) rfl (by kernel_rfl) rfl H rfl ?_
           refine tk (i := 37) rfl (by kernel_rfl) rfl H (fun w' H => r_pkT (v := .bool _) rfl rfl) ?_
           refine tk (i := 38) rfl (by kernel_rfl) rfl H (fun w' H => r_mv (v := .bool _) rfl) ?_
           refine tkn (i := 39) rfl (by kernel_rfl) rfl H rfl ?_
           refine tkn (i := 40) rfl (by kernel_rfl) rfl H rfl ?_
           refine tkn (i := 41) rfl (by kernel_rfl) rfl H rfl ?_
           refine tknU (i := 42) rfl (by kernel_rfl) rfl H rfl ?_
           refine tknU (i := 43) rfl (by kernel_rfl) rfl H rfl ?_
           refine tknU (i := 44) rfl (by kernel_rfl) rfl H rfl ?_
           refine tknU (i := 45) rfl (by kernel_rfl) rfl H rfl ?_
           refine tknU (i := 46) rfl (by kernel_rfl) rfl H rfl ?_
           refine tknU (i := 47) rfl (by kernel_rfl) rfl H rfl ?_
           refine tknU (i := 48) rfl (by kernel_rfl) rfl H rfl ?_
           refine tknU (i := 49) rfl (by kernel_rfl) rfl H rfl ?_
           refine tknU (i := 50) rfl (by kernel_rfl) rfl H rfl ?_
           refine tknU (i := 51) rfl (by kernel_rfl) rfl H rfl ?_
           refine tkn (i := 52) rfl (by kernel_rfl) rfl H rfl ?_
           refine tk (i := 53) rfl (by kernel_rfl) rfl H (fun w' H => r_pkT (v := .bool _) rfl rfl) ?_
           refine da (by kernel_rfl) ?_
           refine then_n ?_
           refine cbT rfl rfl ?_
           refine sq ?_
           refine rg ?_
           refine asg (v := .bool _) rfl rfl ?_
           refine nl ?_
           refine then_n ?_
           refine rt ?_
           refine then_r ?_
           refine in_r ?_
           refine then_r ?_
           refine loop_r ?_
           refine in_r ?_
           refine then_r ?_
           refine fin_r ?_
           exact ⟨false, rfl, H.fr, fun h => by exact Bool.noConfusion h⟩
          ·refine tkg (i := 12) rfl (by kernel_rfl) rfl H rfl (fun w' H => r_fa rfl fo54_6) ?_
           refine tkg (i := 13) rfl (by kernel_rfl) rfl H rfl (fun w' H => r_ld H rfl sc9 rfl) ?_
           refine fk (i := 14) (by kernel_rfl) rfl rfl rfl ?_
           refine gy rfl ?_
           refine cl ca23 (c_sameGuid _ _ _) rfl ?_
           rintro _ w12 ⟨rfl, F⟩
           replace H := H.keep F; clear F
           refine nl ?_
           refine then_n ?_
           refine ⟨H, ?_⟩
           refine tk (i := 15) rfl (by kernel_rfl) rfl H (fun w' H => r_pkF (v := .bool _) rfl rfl) ?_
           refine tk (i := 16) rfl (by kernel_rfl) rfl H (fun w' H => r_mv (v := .bool _) rfl) ?_
           refine spa (t := 83) rfl (fun hg7 => ?_) (fun hg7 => ?_)
           ·refine tkn (i := 17) rfl (by kernel_rfl) rfl H rfl ?_
            refine tkn (i := 18) rfl (by kernel_rfl) rfl H rfl ?_
            refine tkn (i := 19) rfl (by kernel_rfl) rfl H rfl ?_
            refine tkn (i := 20) rfl (by kernel_rfl) rfl H rfl ?_
            refine tk (i := 21) rfl (by kernel_rfl) rfl H (fun w' H => r_pkT (v := .bool _) rfl rfl) ?_
            refine tk (i := 22) rfl (by kernel_rfl) rfl H (fun w' H => r_mv (v := .bool _) rfl) ?_
            refine tkn (i := 23) rfl (by kernel_rfl) rfl H rfl ?_
            refine tkn (i := 24) rfl (by kernel_rfl) rfl H rfl ?_
            refine tkn (i := 25) rfl (by kernel_rfl) rfl H rfl ?_
            refine tkn (i := 26) rfl (by kernel_rfl) rfl H rfl ?_
            refine tk (i := 27) rfl (by kernel_rfl) rfl H (fun w' H => r_pkT (v := .bool _) rfl rfl) ?_
            refine tk (i := 28) rfl (by kernel_rfl) rfl H (fun w' H => r_mv (v := .bool _) rfl) ?_
            refine tkn (i := 29) rfl (by kernel_rfl) rfl H rfl ?_
            refine tkn (i := 30) rfl (by kernel_rfl) rfl H rfl ?_
            refine tkn (i := 31) rfl (by kernel_rfl) rfl H rfl ?_
            refine tk (i := 32) rfl (by kernel_rfl) rfl H (fun w' H => r_pkT (v := .bool _) rfl rfl) ?_
            refine tk (i := 33) rfl (by kernel_rfl) rfl H (fun w' H => r_mv (v := .bool _) rfl) ?_
            refine tkn (i := 34) rfl (by kernel_rfl) rfl H rfl ?_
            refine tkn (i := 35) rfl (by kernel_rfl) rfl H rfl ?_
            refine tkn (i := 36) rfl (by kernel_rfl) rfl H rfl ?_
            refine tk (i := 37) rfl (by kernel_rfl) rfl H (fun w' H => r_pkT (v := .bool _) rfl rfl) ?_
            refine tk (i := 38) rfl (by kernel_rfl) rfl H (fun w' H => r_mv (v := .bool _) rfl) ?_
            refine tkn (i := 39) rfl (by kernel_rfl) rfl H rfl ?_
            refine tkn (i := 40) rfl (by kernel_rfl) rfl H rfl ?_
            refine tkn (i := 41) rfl (by kernel_rfl) rfl H rfl ?_
            refine tknU (i := 42) rfl (by kernel_rfl) rfl H rfl ?_
            refine tknU (i := 43) rfl (by kernel_rfl) rfl H rfl ?_
            refine tknU (i := 44) rfl (by kernel_rfl) rfl H rfl ?_
            refine tknU (i := 45) rfl (by kernel_rfl) rfl H rfl ?_
            refine tknU (i := 46) rfl (by kernel_rfl) rfl H rfl ?_
            refine tknU (i := 47) rfl (by kernel_rfl) rfl H rfl ?_
            refine tknU (i := 48) rfl (by kernel_rfl) rfl H rfl ?_
            refine tknU (i := 49) rfl (by kernel_rfl) rfl H rfl ?_
            refine tknU (i := 50) rfl (by kernel_rfl) rfl H rfl ?_
            refine tknU (i := 51) rfl (by kernel_rfl) rfl H rfl ?_
            refine tkn (i := 52) rfl (by kernel_rfl) rfl H rfl ?_
            refine tk (i := 53) rfl (by kernel_rfl) rfl H (fun w' H => r_pkT (v := .bool _) rfl rfl) ?_
            refine da (by kernel_rfl) ?_
            refine then_n ?_
            refine cbT rfl rfl ?_
            refine sq ?_
            refine rg ?_
            refine asg (v := .bool _) rfl rfl ?_
            refine nl ?_
            refine then_n ?_
            refine rt ?_
            refine then_r ?_
            refine in_r ?_
            refine then_r ?_
            refine loop_r ?_
            refine in_r ?_
            refine then_r ?_
            refine fin_r ?_
            exact ⟨false, rfl, H.fr, fun h => by exact Bool.noConfusion h⟩
           ·refine tkg (i := 17) rfl (by kernel_rfl) rfl H rfl (fun w' H => r_fa rfl fo54_5) ?_
            refine tkg (i := 18) rfl (by kernel_rfl) rfl H rfl (fun w' H => r_ld H rfl sc9 rfl) ?_
            refine fk (i := 19) (by kernel_rfl) rfl rfl rfl ?_
            refine gy rfl ?_
            refine cl ca24 (c_gptName _ _ (by omega)) rfl ?_
            rintro _ w13 ⟨rfl, F⟩
            replace H := H.keep F; clear F
            refine nl ?_
            refine then_n ?_
            refine ⟨H, ?_⟩
            refine tkg (i := 20) rfl (by kernel_rfl) rfl H rfl (fun w' H => r_unot rfl) ?_
            refine tk (i := 21) rfl (by kernel_rfl) rfl H (fun w' H => r_pkF (v := .bool _) rfl rfl) ?_
            refine tk (i := 22) rfl (by kernel_rfl) rfl H (fun w' H => r_mv (v := .bool _) rfl) ?_
            refine spa (t := 89) rfl (fun hg8 => ?_) (fun hg8 => ?_)
            ·refine tkn (i := 23) rfl (by kernel_rfl) rfl H rfl ?_
             refine tkn (i := 24) rfl (by kernel_rfl) rfl H rfl ?_
             refine tkn (i := 25) rfl (by kernel_rfl) rfl H rfl ?_
             refine tkn (i := 26) rfl (by kernel_rfl) rfl H rfl ?_
             refine tk (i := 27) rfl (by kernel_rfl) rfl H (fun w' H => r_pkT (v := .bool _) rfl rfl) ?_
             refine tk (i := 28) rfl (by kernel_rfl) rfl H (fun w' H => r_mv (v := .bool _) rfl) ?_
             refine tkn (i := 29) rfl (by kernel_rfl) rfl H rfl ?_
             refine tkn (i := 30) rfl (by kernel_rfl) rfl H rfl ?_
             refine tkn (i := 31) rfl (by kernel_rfl) rfl H rfl ?_
             refine tk (i := 32) rfl (by kernel_rfl) rfl H (fun w' H => r_pkT (v := .bool _) rfl rfl) ?_
             refine tk (i := 33) rfl (by kernel_rfl) rfl H (fun w' H => r_mv (v := .bool _) rfl) ?_
             refine tkn (i := 34) rfl (by kernel_rfl) rfl H rfl ?_
             refine tkn (i := 35) rfl (by kernel_rfl) rfl H rfl ?_
             refine tkn (i := 36) rfl (by kernel_rfl) rfl H rfl ?_
             refine tk (i := 37) rfl (by kernel_rfl) rfl H (fun w' H => r_pkT (v := .bool _) rfl rfl) ?_
             refine tk (i := 38) rfl (by kernel_rfl) rfl H (fun w' H => r_mv (v := .bool _) rfl) ?_
             refine tkn (i := 39) rfl (by kernel_rfl) rfl H rfl ?_
             refine tkn (i := 40) rfl (by kernel_rfl) rfl H rfl ?_
             refine tkn (i := 41) rfl (by kernel_rfl) rfl H rfl ?_
             refine tknU (i := 42) rfl (by kernel_rfl) rfl H rfl ?_
             refine tknU (i := 43) rfl (by kernel_rfl) rfl H rfl ?_
             refine tknU (i := 44) rfl (by kernel_rfl) rfl H rfl ?_
             refine tknU (i := 45) rfl (by kernel_rfl) rfl H rfl ?_
             refine tknU (i := 46) rfl (by kernel_rfl) rfl H rfl ?_
             refine tknU (i := 47) rfl (by kernel_rfl) rfl H rfl ?_
             refine tknU (i := 48) rfl (by kernel_rfl) rfl H rfl ?_
             refine tknU (i := 49) rfl (by kernel_rfl) rfl H rfl ?_
             refine tknU (i := 50) rfl (by kernel_rfl) rfl H rfl ?_
             refine tknU (i := 51) rfl (by kernel_rfl) rfl H rfl ?_
             refine tkn (i := 52) rfl (by kernel_rfl) rfl H rfl ?_
             refine tk (i := 53) rfl (by kernel_rfl) rfl H (fun w' H => r_pkT (v := .bool _) rfl rfl) ?_
             refine da (by kernel_rfl) ?_
             refine then_n ?_
             refine cbT rfl rfl ?_
             refine sq ?_
             refine rg ?_
             refine asg (v := .bool _) rfl rfl ?_
             refine nl ?_
             refine then_n ?_
             refine rt ?_
             refine then_r ?_
             refine in_r ?_
             refine then_r ?_
             refine loop_r ?_
             refine in_r ?_
             refine then_r ?_
             refine fin_r ?_
             exact ⟨false, rfl, H.fr, fun h => by exact Bool.noConfusion h⟩
            ·refine tkg (i := 23) rfl (by kernel_rfl) rfl H rfl (fun w' H => r_fa rfl fo54_5) ?_
             refine tkg (i := 24) rfl (by kernel_rfl) rfl H rfl (fun w' H => r_ld H rfl sc9 rfl) ?_
             refine fk (i := 25) (by kernel_rfl) rfl rfl rfl ?_
             refine gy rfl ?_
             refine cl ca25 (c_valid _ p.nm (hU.keep H.fr) (by omega)) rfl ?_
             rintro _ w14 ⟨gv, rfl, F⟩
             replace H := H.keep F; clear F
             refine nl ?_
             refine then_n ?_
             refine ⟨H, ?_⟩
             refine tkg (i := 26) rfl (by kernel_rfl) rfl H rfl (fun w' H => r_unot rfl) ?_
             refine tk (i := 27) rfl (by kernel_rfl) rfl H (fun w' H => r_pkF (v := .bool _) rfl rfl) ?_
             refine tk (i := 28) rfl (by kernel_rfl) rfl H (fun w' H => r_mv (v := .bool _) rfl) ?_
             refine spa (t := 95) rfl (fun hg9 => ?_) (fun hg9 => ?_)
             ·refine tkn (i := 29) rfl (by kernel_rfl) rfl H rfl ?_
              refine tkn (i := 30) rfl (by kernel_rfl) rfl H rfl ?_
              refine tkn (i := 31) rfl (by kernel_rfl) rfl H rfl ?_
              refine tk (i := 32) rfl (by kernel_rfl) rfl H (fun w' H => r_pkT (v := .bool _) rfl rfl) ?_
              refine tk (i := 33) rfl (by kernel_rfl) rfl H (fun w' H => r_mv (v := .bool _) rfl) ?_
              refine tkn (i := 34) rfl (by kernel_rfl) rfl H rfl ?_
              refine tkn (i := 35) rfl (by kernel_rfl) rfl H rfl ?_
              refine tkn (i := 36) rfl (by kernel_rfl) rfl H rfl ?_
              refine tk (i := 37) rfl (by kernel_rfl) rfl H (fun w' H => r_pkT (v := .bool _) rfl rfl) ?_
              refine tk (i := 38) rfl (by kernel_rfl) rfl H (fun w' H => r_mv (v := .bool _) rfl) ?_
              refine tkn (i := 39) rfl (by kernel_rfl) rfl H rfl ?_
              refine tkn (i := 40) rfl (by kernel_rfl) rfl H rfl ?_
              refine tkn (i := 41) rfl (by kernel_rfl) rfl H rfl ?_
              refine tknU (i := 42) rfl (by kernel_rfl) rfl H rfl ?_
              refine tknU (i := 43) rfl (by kernel_rfl) rfl H rfl ?_
              refine tknU (i := 44) rfl (by kernel_rfl) rfl H rfl ?_
              refine tknU (i := 45) rfl (by kernel_rfl) rfl H rfl ?_
              refine tknU (i := 46) rfl (by kernel_rfl) rfl H rfl ?_
              refine tknU (i := 47) rfl (by kernel_rfl) rfl H rfl ?_
              refine tknU (i := 48) rfl (by kernel_rfl) rfl H rfl ?_
              refine tknU (i := 49) rfl (by kernel_rfl) rfl H rfl ?_
              refine tknU (i := 50) rfl (by kernel_rfl) rfl H rfl ?_
              refine tknU (i := 51) rfl (by kernel_rfl) rfl H rfl ?_
              refine tkn (i := 52) rfl (by kernel_rfl) rfl H rfl ?_
              refine tk (i := 53) rfl (by kernel_rfl) rfl H (fun w' H => r_pkT (v := .bool _) rfl rfl) ?_
              refine da (by kernel_rfl) ?_
              refine then_n ?_
              refine cbT rfl rfl ?_
              refine sq ?_
              refine rg ?_
              refine asg (v := .bool _) rfl rfl ?_
              refine nl ?_
              refine then_n ?_
              refine rt ?_
              refine then_r ?_
              refine in_r ?_
              refine then_r ?_
              refine loop_r ?_
              refine in_r ?_
              refine then_r ?_
              refine fin_r ?_
              exact ⟨false, rfl, H.fr, fun h => by exact Bool.noConfusion h⟩
             ·refine tkg (i := 29) rfl (by kernel_rfl) rfl H rfl (fun w' H => r_fa rfl fo54_0) ?_
              refine tkg (i := 30) rfl (by kernel_rfl) rfl H rfl (fun w' H => r_ld H rfl sc3 rfl) ?_
              refine tkg (i := 31) rfl (by kernel_rfl) rfl H rfl (fun w' H => r_lss rfl rfl) ?_
              refine tk (i := 32) rfl (by kernel_rfl) rfl H (fun w' H => r_pkF (v := .bool _) rfl rfl) ?_
              refine tk (i := 33) rfl (by kernel_rfl) rfl H (fun w' H => r_mv (v := .bool _) rfl) ?_
              refine spad (t := 100) rfl (fun hg10 => ?_) (fun hg10 => ?_)
              ·refine tkn (i := 34) rfl (by kernel_rfl) rfl H rfl ?_
               refine tkn (i := 35) rfl (by kernel_rfl) rfl H rfl ?_
               refine tkn (i := 36) rfl (by kernel_rfl) rfl H rfl ?_
               refine tk (i := 37) rfl (by kernel_rfl) rfl H (fun w' H => r_pkT (v := .bool _) rfl rfl) ?_
               refine tk (i := 38) rfl (by kernel_rfl) rfl H (fun w' H => r_mv (v := .bool _) rfl) ?_
               refine tkn (i := 39) rfl (by kernel_rfl) rfl H rfl ?_
               refine tkn (i := 40) rfl (by kernel_rfl) rfl H rfl ?_
               refine tkn (i := 41) rfl (by kernel_rfl) rfl H rfl ?_
               refine tknU (i := 42) rfl (by kernel_rfl) rfl H rfl ?_
               refine tknU (i := 43) rfl (by kernel_rfl) rfl H rfl ?_
               refine tknU (i := 44) rfl (by kernel_rfl) rfl H rfl ?_
               refine tknU (i := 45) rfl (by kernel_rfl) rfl H rfl ?_
               refine tknU (i := 46) rfl (by kernel_rfl) rfl H rfl ?_
               refine tknU (i := 47) rfl (by kernel_rfl) rfl H rfl ?_
               refine tknU (i := 48) rfl (by kernel_rfl) rfl H rfl ?_
               refine tknU (i := 49) rfl (by kernel_rfl) rfl H rfl ?_
               refine tknU (i := 50) rfl (by kernel_rfl) rfl H rfl ?_
               refine tknU (i := 51) rfl (by kernel_rfl) rfl H rfl ?_
               refine tkn (i := 52) rfl (by kernel_rfl) rfl H rfl ?_
               refine tk (i := 53) rfl (by kernel_rfl) rfl H (fun w' H => r_pkT (v := .bool _) rfl rfl) ?_
               refine da (by kernel_rfl) ?_
               refine then_n ?_
               refine cbT rfl rfl ?_
               refine sq ?_
               refine rg ?_
               refine asg (v := .bool _) rfl rfl ?_
               refine nl ?_
               refine then_n ?_
               refine rt ?_
               refine then_r ?_
               refine in_r ?_
               refine then_r ?_
               refine loop_r ?_
               refine in_r ?_
               refine then_r ?_
               refine fin_r ?_
               exact ⟨false, rfl, H.fr, fun h => by exact Bool.noConfusion h⟩
              ·refine tkg (i := 34) rfl (by kernel_rfl) rfl H rfl (fun w' H => r_fa rfl fo54_0) ?_
               refine tkg (i := 35) rfl (by kernel_rfl) rfl H rfl (fun w' H => r_ld H rfl sc3 rfl) ?_
               refine tkg (i := 36) rfl (by kernel_rfl) rfl H rfl (fun w' H => r_gtr rfl rfl) ?_
               refine tk (i := 37) rfl (by kernel_rfl) rfl H (fun w' H => r_pkF (v := .bool _) rfl rfl) ?_
               refine tk (i := 38) rfl (by kernel_rfl) rfl H (fun w' H => r_mv (v := .bool _) rfl) ?_
               refine spad (t := 105) rfl (fun hg11 => ?_) (fun hg11 => ?_)
               ·refine tkn (i := 39) rfl (by kernel_rfl) rfl H rfl ?_
                refine tkn (i := 40) rfl (by kernel_rfl) rfl H rfl ?_
                refine tkn (i := 41) rfl (by kernel_rfl) rfl H rfl ?_
                refine tknU (i := 42) rfl (by kernel_rfl) rfl H rfl ?_
                refine tknU (i := 43) rfl (by kernel_rfl) rfl H rfl ?_
                refine tknU (i := 44) rfl (by kernel_rfl) rfl H rfl ?_
                refine tknU (i := 45) rfl (by kernel_rfl) rfl H rfl ?_
                refine tknU (i := 46) rfl (by kernel_rfl) rfl H rfl ?_
                refine tknU (i := 47) rfl (by kernel_rfl) rfl H rfl ?_
                refine tknU (i := 48) rfl (by kernel_rfl) rfl H rfl ?_
                refine tknU (i := 49) rfl (by kernel_rfl) rfl H rfl ?_
                refine tknU (i := 50) rfl (by kernel_rfl) rfl H rfl ?_
                refine tknU (i := 51) rfl (by kernel_rfl) rfl H rfl ?_
                refine tkn (i := 52) rfl (by kernel_rfl) rfl H rfl ?_
                refine tk (i := 53) rfl (by kernel_rfl) rfl H (fun w' H => r_pkT (v := .bool _) rfl rfl) ?_
                refine da (by kernel_rfl) ?_
                refine then_n ?_
                refine cbT rfl rfl ?_
                refine sq ?_
                refine rg ?_
                refine asg (v := .bool _) rfl rfl ?_
                refine nl ?_
                refine then_n ?_
                refine rt ?_
                refine then_r ?_
                refine in_r ?_
                refine then_r ?_
                refine loop_r ?_
                refine in_r ?_
                refine then_r ?_
                refine fin_r ?_
                exact ⟨false, rfl, H.fr, fun h => by exact Bool.noConfusion h⟩
               ·refine tkg (i := 39) rfl (by kernel_rfl) rfl H rfl (fun w' H => r_mv (v := .int .i64 _) rfl) ?_
                refine tkg (i := 40) rfl (by kernel_rfl) rfl H rfl (fun w' H => r_gtr rfl rfl) ?_
                refine tkg (i := 41) rfl (by kernel_rfl) rfl H rfl (fun w' H => r_mv (v := .bool _) rfl) ?_
                refine spad (t := 108) rfl (fun hg12 => ?_) (fun hg12 => ?_)
                ·obtain ⟨x9, hp9⟩ : ∃ q, ps[i - 1]? = some q := ⟨_, List.getElem?_eq_getElem (by omega)⟩
                 refine tkg (i := 42) rfl (by kernel_rfl) rfl H rfl (fun w' H => r_fa rfl fo54_0) ?_
                 refine tkg (i := 43) rfl (by kernel_rfl) rfl H rfl (fun w' H => r_ld H rfl sc3 rfl) ?_
                 refine tkg (i := 44) rfl (by kernel_rfl) rfl H rfl (fun w' H => r_fa rfl fo24_0) ?_
                 refine tkg (i := 45) rfl (by kernel_rfl) rfl H rfl (fun w' H => r_ld H rfl sc22 rfl) ?_
                 refine tkg (i := 46) rfl (by kernel_rfl) rfl H rfl (fun w' H => r_mv (v := .int .i64 _) rfl) ?_
                 refine tkg (i := 47) rfl (by kernel_rfl) rfl H rfl (fun w' H => r_sub rfl rfl (by first | exact w_i64 (by omega) | exact w_i64 (rng_i64 _) | rfl)) ?_
                 refine tkg (i := 48) rfl (by kernel_rfl) rfl H rfl (fun w' H => r_iBN (ad.add ((i - 1) * 8)) rfl rfl Tryz.underlying22 sz54_8 (by omega) (congrArg (fun k => ad.add (k * 8)) (by omega))) ?_
                 refine tkg (i := 49) rfl (by kernel_rfl) rfl H rfl (fun w' H => r_faG rfl fo54_0) ?_
                 refine tkg (i := 50) rfl (by kernel_rfl) rfl H rfl (fun w' H => r_lc (v := .int .i64 x9.ix) rfl (H.fr.cell (hq.elem hp9 0 _ rfl) (by simp)) sc3) ?_
                 refine tkg (i := 51) rfl (by kernel_rfl) rfl H rfl (fun w' H => r_leq rfl rfl) ?_
                 refine tkg (i := 52) rfl (by kernel_rfl) rfl H rfl (fun w' H => r_pkT (v := .bool _) rfl rfl) ?_
                 refine tk (i := 53) rfl (by kernel_rfl) rfl H (fun w' H => r_pkF (v := .bool _) rfl rfl) ?_
                 refine da (by kernel_rfl) ?_
                 refine then_n ?_
                 refine cd rfl (fun hc3 => ?_) (fun hc3 => ?_)
                 ·refine sq ?_
                  refine rg ?_
                  refine asg (v := .bool _) rfl rfl ?_
                  refine nl ?_
                  refine then_n ?_
                  refine rt ?_
                  refine then_r ?_
                  refine in_r ?_
                  refine then_r ?_
                  refine loop_r ?_
                  refine in_r ?_
                  refine then_r ?_
                  refine fin_r ?_
                  exact ⟨false, rfl, H.fr, fun h => by exact Bool.noConfusion h⟩
                 ·refine sk ?_
                  refine then_n ?_
                  exact ⟨(), ⟨⟨by simpa using hg4, by simpa using hg5, hg6, hg7, by simpa using hg8, ⟨by omega, by omega⟩, fun q _ hq9 => by rw [hp9] at hq9; cases hq9; omega⟩, H⟩, (fN _), (by repeat (first | exact Agree.setL rfl Agree.mask | exact Agree.self _ _ | refine Agree.upd rfl ?_ | refine Agree.setL rfl ?_ | refine Agree.mask2 rfl ?_))⟩
                ·refine tkn (i := 42) rfl (by kernel_rfl) rfl H rfl ?_
                 refine tkn (i := 43) rfl (by kernel_rfl) rfl H rfl ?_
                 refine tkn (i := 44) rfl (by kernel_rfl) rfl H rfl ?_
                 refine tkn (i := 45) rfl (by kernel_rfl) rfl H rfl ?_
                 refine tkn (i := 46) rfl (by kernel_rfl) rfl H rfl ?_
                 refine tkn (i := 47) rfl (by kernel_rfl) rfl H rfl ?_
                 refine tkn (i := 48) rfl (by kernel_rfl) rfl H rfl ?_
                 refine tkn (i := 49) rfl (by kernel_rfl) rfl H rfl ?_
                 refine tkn (i := 50) rfl (by kernel_rfl) rfl H rfl ?_
                 refine tkn (i := 51) rfl (by kernel_rfl) rfl H rfl ?_
                 refine tkg (i := 52) rfl (by kernel_rfl) rfl H rfl (fun w' H => r_pkF (v := .bool _) rfl rfl) ?_
                 refine tk (i := 53) rfl (by kernel_rfl) rfl H (fun w' H => r_pkF (v := .bool _) rfl rfl) ?_
                 refine da (by kernel_rfl) ?_
                 refine then_n ?_
                 refine cbF rfl rfl ?_
                 refine sk ?_
                 refine then_n ?_
                 exact ⟨(), ⟨⟨by simpa using hg4, by simpa using hg5, hg6, hg7, by simpa using hg8, ⟨by omega, by omega⟩, fun q h0 _ => by omega⟩, H⟩, (fN _), (by repeat (first | exact Agree.setL rfl Agree.mask | exact Agree.self _ _ | refine Agree.upd rfl ?_ | refine Agree.setL rfl ?_ | refine Agree.mask2 rfl ?_))⟩
       ·rintro _u ρx w15 ⟨⟨q1, q2, q3, q4, q5, q6, q7⟩, H⟩
        refine sq ?_
        refine sq ?_
        refine rg ?_
        refine fa rfl fo54_5 rfl ?_
        refine ld H rfl sc9 rfl rfl ?_
        refine rngS H rfl Tryz.underlying9 rfl ?_
        clear H; intro b6 w16 hb6 H _
        refine nl ?_
        refine then_n ?_
        refine bk ?_
        refine lpM (α := Nat) [4, 15, 124, 125, 126, 127, 128, 129, 130, 131, 132] (fun q => []) (fun q w' => q ≤ p.nm.length ∧ (okN (p.nm.drop q) → okN p.nm) ∧ SH w [] w' [⟨b6, .stringIter (str p.nm) q, true⟩, ⟨b5, .cells (Bs (gB p.gu)).toArray 50 (0, 0), true⟩, ⟨b4, .cells (Bs (gB p.ty)).toArray 50 (0, 0), true⟩, ⟨b3, .cells p.cells.toArray 54 (0, 0), true⟩, ⟨b2, .cells (Bs (gB g)).toArray 50 (0, 0), true⟩, ⟨b1, .cells (gtCells (some ad) m c 512 g pr rc).toArray 24 (0, 0), true⟩]) (fun q => p.nm.length - q) 0 ?_ (fN _) ?_
        ·exact ⟨by omega, id, H⟩
        ·rintro q ρx w17 ⟨hqq, hkk, H⟩
         refine sq ?_
         refine rg ?_
         refine nxt H rfl rfl ?_
         clear H; intro w18 H _
         refine xt rfl (next0 _ _) rfl ?_
         refine nl ?_
         refine then_n ?_
         refine sq ?_
         refine cd rfl (fun hc4 => ?_) (fun hc4 => ?_)
         ·have hlt : q < p.nm.length := by assumption
          rw [nextP_of hlt] at H
          obtain ⟨r1, r2, r3, r4, r5, r6, _⟩ := rune_at hlt
          rw [List.length_drop] at r2
          refine sk ?_
          refine then_n ?_
          refine bk ?_
          refine sq ?_
          refine rg ?_
          refine xt rfl (next2 (by omega)) rfl ?_
          refine asg (v := .int .i32 _) rfl rfl ?_
          refine nl ?_
          refine then_n ?_
          refine sq ?_
          refine rg ?_
          refine mv (v := .int .i32 _) rfl rfl ?_
          refine eql rfl rfl rfl ?_
          refine mv (v := .bool _) rfl rfl ?_
          refine spd (t := 129) rfl (fun hg13 => ?_) (fun hg13 => ?_)
          ·refine gn rfl rfl ?_
           refine gn rfl rfl ?_
           refine pkT (v := .bool _) rfl rfl rfl ?_
           refine nl ?_
           refine then_n ?_
           refine cbT rfl rfl ?_
           refine sq ?_
           refine rg ?_
           refine asg (v := .bool _) rfl rfl ?_
           refine nl ?_
           refine then_n ?_
           refine rt ?_
           refine in_r ?_
           refine loop_r ?_
           refine in_r ?_
           refine then_r ?_
           refine in_r ?_
           refine then_r ?_
           refine loop_r ?_
           refine in_r ?_
           refine then_r ?_
           refine fin_r ?_
           exact ⟨false, rfl, H.fr, fun h => by exact Bool.noConfusion h⟩
          ·refine gy rfl ?_
           refine mv (v := .int .i32 _) rfl rfl ?_
           refine gy rfl ?_
           refine eql rfl rfl rfl ?_
           refine pkF (v := .bool _) rfl rfl rfl ?_
           refine nl ?_
           refine then_n ?_
           refine cd rfl (fun hc5 => ?_) (fun hc5 => ?_)
           ·refine sq ?_
            refine rg ?_
            refine asg (v := .bool _) rfl rfl ?_
            refine nl ?_
            refine then_n ?_
            refine rt ?_
            refine in_r ?_
            refine loop_r ?_
            refine in_r ?_
            refine then_r ?_
            refine in_r ?_
            refine then_r ?_
            refine loop_r ?_
            refine in_r ?_
            refine then_r ?_
            refine fin_r ?_
            exact ⟨false, rfl, H.fr, fun h => by exact Bool.noConfusion h⟩
           ·refine sk ?_
            refine in_n ?_
            refine loop_n ?_
            exact ⟨q + (rune1 (p.nm.drop q)).2, (by (try dsimp only); omega), ⟨by omega, fun h => hkk (okN_step hlt (by omega) (by omega) h), H⟩, (fN _), (by repeat (first | exact Agree.setL rfl Agree.mask | exact Agree.self _ _ | refine Agree.upd rfl ?_ | refine Agree.setL rfl ?_ | refine Agree.mask2 rfl ?_))⟩
         ·have hnm := okN_end (by assumption) hkk
          rw [nextP_end (by assumption)] at H
          refine ex ?_
          refine then_e ?_
          refine loop_e ?_
          refine in_hit rfl ?_
          refine then_n ?_
          refine sq ?_
          refine sq ?_
          refine rg ?_
          refine fa rfl fo54_1 rfl ?_
          refine ld H rfl sc28 rfl rfl ?_
          refine mv (v := .int .u64 _) rfl rfl ?_
          refine add rfl rfl (by first | exact w_u64 (by omega) | exact w_u64 (rng_u64 _) | exact m_u64 _) rfl ?_
          refine lss rfl rfl rfl ?_
          refine mv (v := .bool _) rfl rfl ?_
          refine spd (t := 138) rfl (fun hg14 => ?_) (fun hg14 => ?_)
          ·refine gn rfl rfl ?_
           refine gn rfl rfl ?_
           refine gn rfl rfl ?_
           refine gn rfl rfl ?_
           refine gn rfl rfl ?_
           refine pkT (v := .bool _) rfl rfl rfl ?_
           refine mv (v := .bool _) rfl rfl ?_
           refine gn rfl rfl ?_
           refine gn rfl rfl ?_
           refine gn rfl rfl ?_
           refine gn rfl rfl ?_
           refine gn rfl rfl ?_
           refine gn rfl rfl ?_
           refine gn rfl rfl ?_
           refine pkT (v := .bool _) rfl rfl rfl ?_
           refine mv (v := .bool _) rfl rfl ?_
           refine gn rfl rfl ?_
           refine gn rfl rfl ?_
           refine gn rfl rfl ?_
           refine gn rfl rfl ?_
           refine gn rfl rfl ?_
           refine gn rfl rfl ?_
           refine gn rfl rfl ?_
           refine gn rfl rfl ?_
           refine gn rfl rfl ?_
           refine gn rfl rfl ?_
           refine gn rfl rfl ?_
           refine gn rfl rfl ?_
           refine gn rfl rfl ?_
           refine pkT (v := .bool _) rfl rfl rfl ?_
           refine nl ?_
           refine then_n ?_
           refine cbT rfl rfl ?_
           refine sq ?_
           refine rg ?_
           refine asg (v := .bool _) rfl rfl ?_
           refine nl ?_
           refine then_n ?_
           refine rt ?_
           refine then_r ?_
           refine in_r ?_
           refine then_r ?_
           refine loop_r ?_
           refine in_r ?_
           refine then_r ?_
           refine fin_r ?_
           exact ⟨false, rfl, H.fr, fun h => by exact Bool.noConfusion h⟩
          ·refine gy rfl ?_
           refine fa rfl fo54_2 rfl ?_
           refine gy rfl ?_
           refine ld H rfl sc28 rfl rfl ?_
           refine gy rfl ?_
           refine fa rfl fo54_1 rfl ?_
           refine gy rfl ?_
           refine ld H rfl sc28 rfl rfl ?_
           refine gy rfl ?_
           refine lss rfl rfl rfl ?_
           refine pkF (v := .bool _) rfl rfl rfl ?_
           refine mv (v := .bool _) rfl rfl ?_
           refine spd (t := 145) rfl (fun hg15 => ?_) (fun hg15 => ?_)
           ·refine gn rfl rfl ?_
            refine gn rfl rfl ?_
            refine gn rfl rfl ?_
            refine gn rfl rfl ?_
            refine gn rfl rfl ?_
            refine gn rfl rfl ?_
            refine gn rfl rfl ?_
            refine pkT (v := .bool _) rfl rfl rfl ?_
            refine mv (v := .bool _) rfl rfl ?_
            refine gn rfl rfl ?_
            refine gn rfl rfl ?_
            refine gn rfl rfl ?_
            refine gn rfl rfl ?_
            refine gn rfl rfl ?_
            refine gn rfl rfl ?_
            refine gn rfl rfl ?_
            refine gn rfl rfl ?_
            refine gn rfl rfl ?_
            refine gn rfl rfl ?_
            refine gn rfl rfl ?_
            refine gn rfl rfl ?_
            refine gn rfl rfl ?_
            refine pkT (v := .bool _) rfl rfl rfl ?_
            refine nl ?_
            refine then_n ?_
            refine cbT rfl rfl ?_
            refine sq ?_
            refine rg ?_
            refine asg (v := .bool _) rfl rfl ?_
            refine nl ?_
            refine then_n ?_
            refine rt ?_
            refine then_r ?_
            refine in_r ?_
            refine then_r ?_
            refine loop_r ?_
            refine in_r ?_
            refine then_r ?_
            refine fin_r ?_
            exact ⟨false, rfl, H.fr, fun h => by exact Bool.noConfusion h⟩
           ·refine gy rfl ?_
            refine fa rfl fo54_2 rfl ?_
            refine gy rfl ?_
            refine ld H rfl sc28 rfl rfl ?_
            refine gy rfl ?_
            refine mv (v := .int .u64 _) rfl rfl ?_
            refine gy rfl ?_
            refine sub rfl rfl (by first | exact w_u64 (by omega) | exact w_u64 (rng_u64 _) | exact m_u64 _) rfl ?_
            refine gy rfl ?_
            refine mv (v := .int .u64 _) rfl rfl ?_
            refine gy rfl ?_
            refine sub rfl rfl (by first | exact w_u64 (by omega) | exact w_u64 (rng_u64 _) | exact m_u64 _) rfl ?_
            refine gy rfl ?_
            refine gtr rfl rfl rfl ?_
            refine pkF (v := .bool _) rfl rfl rfl ?_
            refine mv (v := .bool _) rfl rfl ?_
            refine spd (t := 154) rfl (fun hg16 => ?_) (fun hg16 => ?_)
            ·refine gn rfl rfl ?_
             refine gn rfl rfl ?_
             refine gn rfl rfl ?_
             refine gn rfl rfl ?_
             refine gn rfl rfl ?_
             refine gn rfl rfl ?_
             refine gn rfl rfl ?_
             refine gn rfl rfl ?_
             refine gn rfl rfl ?_
             refine gn rfl rfl ?_
             refine gn rfl rfl ?_
             refine gn rfl rfl ?_
             refine gn rfl rfl ?_
             refine pkT (v := .bool _) rfl rfl rfl ?_
             refine nl ?_
             refine then_n ?_
             refine cbT rfl rfl ?_
             refine sq ?_
             refine rg ?_
             refine asg (v := .bool _) rfl rfl ?_
             refine nl ?_
             refine then_n ?_
             refine rt ?_
             refine then_r ?_
             refine in_r ?_
             refine then_r ?_
             refine loop_r ?_
             refine in_r ?_
             refine then_r ?_
             refine fin_r ?_
             exact ⟨false, rfl, H.fr, fun h => by exact Bool.noConfusion h⟩
            ·refine gy rfl ?_
             refine fa rfl fo54_3 rfl ?_
             refine gy rfl ?_
             refine ld H rfl sc28 rfl rfl ?_
             refine gy rfl ?_
             refine fa rfl fo54_2 rfl ?_
             refine gy rfl ?_
             refine ld H rfl sc28 rfl rfl ?_
             refine gy rfl ?_
             refine fa rfl fo54_1 rfl ?_
             refine gy rfl ?_
             refine ld H rfl sc28 rfl rfl ?_
             refine gy rfl ?_
             refine sub rfl rfl (by first | exact w_u64 (by omega) | exact w_u64 (rng_u64 _) | exact m_u64 _) rfl ?_
             refine gy rfl ?_
             refine add rfl rfl (by first | exact w_u64 (by omega) | exact w_u64 (rng_u64 _) | exact m_u64 _) rfl ?_
             refine gy rfl ?_
             refine fa rfl fo24_1 rfl ?_
             refine gy rfl ?_
             refine ld H rfl sc3 rfl rfl ?_
             refine gy rfl ?_
             refine cvi rfl rfl Tryz.underlying28 (by first | exact w_u64 (by omega) | exact w_u64 (rng_u64 _) | exact m_u64 _) rfl ?_
             refine gy rfl ?_
             refine mul rfl rfl (by first | exact w_u64 (by omega) | exact w_u64 (rng_u64 _) | exact m_u64 _) rfl ?_
             refine gy rfl ?_
             refine neq rfl rfl rfl ?_
             refine pkF (v := .bool _) rfl rfl rfl ?_
             refine nl ?_
             refine then_n ?_
             refine cd rfl (fun hc6 => ?_) (fun hc6 => ?_)
             ·refine sq ?_
              refine rg ?_
              refine asg (v := .bool _) rfl rfl ?_
              refine nl ?_
              refine then_n ?_
              refine rt ?_
              refine then_r ?_
              refine in_r ?_
              refine then_r ?_
              refine loop_r ?_
              refine in_r ?_
              refine then_r ?_
              refine fin_r ?_
              exact ⟨false, rfl, H.fr, fun h => by exact Bool.noConfusion h⟩
             ·refine sk ?_
              refine then_n ?_
              refine sq ?_
              refine rg ?_
              refine fa rfl fo24_0 rfl ?_
              refine ld H rfl sc22 rfl rfl ?_
              refine mv (v := .int .i64 _) rfl rfl ?_
              refine slh rfl rfl Tryz.underlying22 sz54_8 (by first | trivial | omega | (simp; omega)) rfl ?_
              refine lnS rfl Tryz.underlying22 rfl ?_
              refine mv (v := .int .i64 _) rfl rfl ?_
              refine nl ?_
              refine then_n ?_
              refine bk ?_
              refine lpM (α := Nat) [4, 17, 174, 175, 176, 177, 178, 179, 180, 181, 182, 183, 184, 185, 186, 187, 188, 189, 190, 191, 192, 193, 194, 195, 196, 197] (fun j => [(174, .int .i64 (j : Int))]) (fun j w' => j ≤ i ∧ SH w [] w' [⟨b3, .cells p.cells.toArray 54 (0, 0), true⟩, ⟨b2, .cells (Bs (gB g)).toArray 50 (0, 0), true⟩, ⟨b1, .cells (gtCells (some ad) m c 512 g pr rc).toArray 24 (0, 0), true⟩]) (fun j => i - j) 0 ?_ (fC (by first | rfl | exact congrArg (Value.int _) (by first | omega | assumption | (symm; assumption) | (simp; done) | (simp; omega)) | exact congrArg (fun n => Value.slice _ n _) (by first | omega | (simp; done) | (simp; omega))) (fN _)) ?_
              ·exact ⟨by omega, H.sub (by repeat (first | exact List.Sublist.refl _ | exact List.nil_sublist _ | apply List.Sublist.cons_cons | apply List.Sublist.cons))⟩
              ·rintro j ρx w19 ⟨hj, H⟩
               refine sq ?_
               refine rg ?_
               refine lss rfl rfl rfl ?_
               refine nl ?_
               refine then_n ?_
               refine sq ?_
               refine cd rfl (fun hc7 => ?_) (fun hc7 => ?_)
               ·obtain ⟨y9, hy9⟩ : ∃ q, ps[j]? = some q := ⟨_, List.getElem?_eq_getElem (by omega)⟩
                refine sk ?_
                refine then_n ?_
                refine sq ?_
                refine bk ?_
                refine sq ?_
                refine rg ?_
                refine iBN (ad.add (j * 8)) rfl rfl Tryz.underlying22 sz54_8 (by omega) (by simp) rfl ?_
                refine lw (vs := y9.cells) rfl ag54_8 rfl (fun j v h => H.fr.cell (hq.elem hy9 j v h) (by simp)) rfl ?_
                refine al H ze54 rfl ?_
                clear H; intro b7 w20 hb7 H _
                refine sa (cs' := y9.cells) H rfl rfl ag54_8 rfl rfl (by decide) (by omega) rfl ?_
                clear H; intro w36 H _
                refine nl ?_
                refine then_n ?_
                refine sq ?_
                refine rg ?_
                refine fa rfl fo54_1 rfl ?_
                refine ld H rfl sc28 rfl rfl ?_
                refine fa rfl fo54_2 rfl ?_
                refine ld H rfl sc28 rfl rfl ?_
                refine leq rfl rfl rfl ?_
                refine mv (v := .bool _) rfl rfl ?_
                refine spd (t := 183) rfl (fun hg17 => ?_) (fun hg17 => ?_)
                ·refine gy rfl ?_
                 refine fa rfl fo54_1 rfl ?_
                 refine gy rfl ?_
                 refine ld H rfl sc28 rfl rfl ?_
                 refine gy rfl ?_
                 refine fa rfl fo54_2 rfl ?_
                 refine gy rfl ?_
                 refine ld H rfl sc28 rfl rfl ?_
                 refine gy rfl ?_
                 refine leq rfl rfl rfl ?_
                 refine pkT (v := .bool _) rfl rfl rfl ?_
                 refine mv (v := .bool _) rfl rfl ?_
                 refine spd (t := 190) rfl (fun hg18 => ?_) (fun hg18 => ?_)
                 ·refine gn rfl rfl ?_
                  refine gn rfl rfl ?_
                  refine gn rfl rfl ?_
                  refine gn rfl rfl ?_
                  refine gn rfl rfl ?_
                  refine pkT (v := .bool _) rfl rfl rfl ?_
                  refine nl ?_
                  refine then_n ?_
                  refine cbT rfl rfl ?_
                  refine sq ?_
                  refine rg ?_
                  refine asg (v := .bool _) rfl rfl ?_
                  refine nl ?_
                  refine then_n ?_
                  refine rt ?_
                  refine in_r ?_
                  refine then_r ?_
                  refine loop_r ?_
                  refine in_r ?_
                  refine in_r ?_
                  refine then_r ?_
                  refine loop_r ?_
                  refine in_r ?_
                  refine then_r ?_
                  refine fin_r ?_
                  exact ⟨false, rfl, H.fr, fun h => by exact Bool.noConfusion h⟩
                 ·refine gy rfl ?_
                  refine fa rfl fo54_6 rfl ?_
                  refine gy rfl ?_
                  refine ld H rfl sc9 rfl rfl ?_
                  refine gy rfl ?_
                  refine fa rfl fo54_6 rfl ?_
                  refine gy rfl ?_
                  refine ld H rfl sc9 rfl rfl ?_
                  refine gy rfl ?_
                  refine cl ca23 (c_sameGuid _ _ _) rfl ?_
                  rintro _ w21 ⟨rfl, F⟩
                  replace H := H.keep F; clear F
                  refine pkF (v := .bool _) rfl rfl rfl ?_
                  refine nl ?_
                  refine then_n ?_
                  refine cn rfl (fun hc8 => ?_) (fun hc8 => ?_)
                  ·refine sq ?_
                   refine rg ?_
                   refine asg (v := .bool _) rfl rfl ?_
                   refine nl ?_
                   refine then_n ?_
                   refine rt ?_
                   refine in_r ?_
                   refine then_r ?_
                   refine loop_r ?_
                   refine in_r ?_
                   refine in_r ?_
                   refine then_r ?_
                   refine loop_r ?_
                   refine in_r ?_
                   refine then_r ?_
                   refine fin_r ?_
                   exact ⟨false, rfl, H.fr, fun h => by exact Bool.noConfusion h⟩
                  ·refine sk ?_
                   refine in_n ?_
                   refine then_n ?_
                   refine rg ?_
                   refine add rfl rfl (by first | exact w_i64 (by omega) | exact w_i64 (rng_i64 _) | rfl) rfl ?_
                   refine mv (v := .int .i64 _) rfl rfl ?_
                   refine nl ?_
                   refine loop_n ?_
                   exact ⟨j + 1, (by (try dsimp only); omega), ⟨by omega, H.sub (by repeat (first | exact List.Sublist.refl _ | exact List.nil_sublist _ | apply List.Sublist.cons_cons | apply List.Sublist.cons))⟩, (fC (by first | rfl | exact congrArg (Value.int _) (by first | omega | assumption | (symm; assumption) | (simp; done) | (simp; omega)) | exact congrArg (fun n => Value.slice _ n _) (by first | omega | (simp; done) | (simp; omega))) (fN _)), (by repeat (first | exact Agree.setL rfl Agree.mask | exact Agree.self _ _ | refine Agree.upd rfl ?_ | refine Agree.setL rfl ?_ | refine Agree.mask2 rfl ?_))⟩
                ·refine gn rfl rfl ?_
                 refine gn rfl rfl ?_
                 refine gn rfl rfl ?_
                 refine gn rfl rfl ?_
                 refine gn rfl rfl ?_
                 refine pkF (v := .bool _) rfl rfl rfl ?_
                 refine mv (v := .bool _) rfl rfl ?_
                 refine gy rfl ?_
                 refine fa rfl fo54_6 rfl ?_
                 refine gy rfl ?_
                 refine ld H rfl sc9 rfl rfl ?_
                 refine gy rfl ?_
                 refine fa rfl fo54_6 rfl ?_
                 refine gy rfl ?_
                 refine ld H rfl sc9 rfl rfl ?_
                 refine gy rfl ?_
                 refine cl ca23 (c_sameGuid _ _ _) rfl ?_
                 rintro _ w22 ⟨rfl, F⟩
                 replace H := H.keep F; clear F
                 refine pkF (v := .bool _) rfl rfl rfl ?_
                 refine nl ?_
                 refine then_n ?_
                 refine cn rfl (fun hc9 => ?_) (fun hc9 => ?_)
                 ·refine sq ?_
                  refine rg ?_
                  refine asg (v := .bool _) rfl rfl ?_
                  refine nl ?_
                  refine then_n ?_
                  refine rt ?_
                  refine in_r ?_
                  refine then_r ?_
                  refine loop_r ?_
                  refine in_r ?_
                  refine in_r ?_
                  refine then_r ?_
                  refine loop_r ?_
                  refine in_r ?_
                  refine then_r ?_
                  refine fin_r ?_
                  exact ⟨false, rfl, H.fr, fun h => by exact Bool.noConfusion h⟩
                 ·refine sk ?_
                  refine in_n ?_
                  refine then_n ?_
                  refine rg ?_
                  refine add rfl rfl (by first | exact w_i64 (by omega) | exact w_i64 (rng_i64 _) | rfl) rfl ?_
                  refine mv (v := .int .i64 _) rfl rfl ?_
                  refine nl ?_
                  refine loop_n ?_
                  exact ⟨j + 1, (by (try dsimp only); omega), ⟨by omega, H.sub (by repeat (first | exact List.Sublist.refl _ | exact List.nil_sublist _ | apply List.Sublist.cons_cons | apply List.Sublist.cons))⟩, (fC (by first | rfl | exact congrArg (Value.int _) (by first | omega | assumption | (symm; assumption) | (simp; done) | (simp; omega)) | exact congrArg (fun n => Value.slice _ n _) (by first | omega | (simp; done) | (simp; omega))) (fN _)), (by repeat (first | exact Agree.setL rfl Agree.mask | exact Agree.self _ _ | refine Agree.upd rfl ?_ | refine Agree.setL rfl ?_ | refine Agree.mask2 rfl ?_))⟩
               ·refine ex ?_
                refine then_e ?_
                refine loop_e ?_
                refine in_hit rfl ?_
                refine in_n ?_
                refine then_n ?_
                refine rg ?_
                refine add rfl rfl (by first | exact w_i64 (by omega) | exact w_i64 (rng_i64 _) | rfl) rfl ?_
                refine mv (v := .int .i64 _) rfl rfl ?_
                refine nl ?_
                refine loop_n ?_
                exact ⟨i + 1, (by (try dsimp only); omega), ⟨by omega, all_next hs hpi ⟨q1, q2, q3, q4, q5, hnm, q6, by omega, by omega, by omega, by omega⟩, ordTo_next ho hpi q7, H.sub (by repeat (first | exact List.Sublist.refl _ | exact List.nil_sublist _ | apply List.Sublist.cons_cons | apply List.Sublist.cons))⟩, (fC (by first | rfl | exact congrArg (Value.int _) (by first | omega | assumption | (symm; assumption) | (simp; done) | (simp; omega)) | exact congrArg (fun n => Value.slice _ n _) (by first | omega | (simp; done) | (simp; omega))) (fN _)), (by repeat (first | exact Agree.setL rfl Agree.mask | exact Agree.self _ _ | refine Agree.upd rfl ?_ | refine Agree.setL rfl ?_ | refine Agree.mask2 rfl ?_))⟩
      ·refine ex ?_
       refine then_e ?_
       refine loop_e ?_
       refine in_hit rfl ?_
       refine then_n ?_
       refine sq ?_
       refine rg ?_
       refine asg (v := .bool _) rfl rfl ?_
       refine nl ?_
       refine then_n ?_
       refine rt ?_
       refine fin_r ?_
       exact ⟨true, rfl, H.fr, fun _ => ⟨by simpa using hg1, by omega, all_mem (by omega) hs, ordTo_all (by omega) ho⟩⟩

end Go.Proofs.YthcaejaaalkglaaGreatDoor.X

/- A disk on which a table stands, in both places; what is left of it when bytes are spoilt. -/
namespace Go.Proofs.YthcaejaaalkglaaGreatDoor.X
set_option linter.unusedVariables false
open Go
structure Stands (D : List UInt8) (n : Nat) (g : List UInt8) (ps : List GP) : Prop where
  len : D.length = n * 512
  g1 : hdrGood D 512 = true
  k1 : crcOk D 512 = true
  f1 : fld D 584 8 = 2 ∧ fld D 592 4 = 128 ∧ fld D 596 4 = 128
  c1 : fld D 600 4 = crc32 (arrB ps)
  a1 : pcs D 1024 16384 = arrB ps
  u1 : pcs D 568 16 = gB g
  m1 : fld D 536 8 = 1
  o1 : fld D 544 8 = (n : Int) - 1
  i1 : fld D 552 8 = 34
  x1 : fld D 560 8 = (n : Int) - 34
  g2 : hdrGood D (512 * (n - 1)) = true
  k2 : crcOk D (512 * (n - 1)) = true
  f2 : fld D (512 * (n - 1) + 72) 8 = ((n - 33 : Nat) : Int) ∧ fld D (512 * (n - 1) + 80) 4 = 128 ∧ fld D (512 * (n - 1) + 84) 4 = 128
  c2 : fld D (512 * (n - 1) + 88) 4 = crc32 (arrB ps)
  a2 : pcs D (512 * (n - 33)) 16384 = arrB ps
  u2 : pcs D (512 * (n - 1) + 56) 16 = gB g
  m2 : fld D (512 * (n - 1) + 24) 8 = (n : Int) - 1
  i2 : fld D (512 * (n - 1) + 40) 8 = 34
  pr : protB (pcs D 0 512) ((n : Int) - 1) = true
section stands
variable {D : List UInt8} {n : Nat} {g : List UInt8} {ps : List GP}
theorem Stands.read (S : Stands D n g ps) (hn : 80 ≤ n ∧ n ≤ 1000000) :
    (hdrGood D 512 && decide (fld D 600 4 = crc32 (pcs D 1024 16384))) = true ∧
    (hdrGood D 512 = true → fld D 584 8 = 2 ∧ fld D 592 4 = 128 ∧ fld D 596 4 = 128) ∧
    (hdrGood D (512 * (n - 1)) = true → fld D (512 * (n - 1) + 72) 8 = ((n - 33 : Nat) : Int) ∧ fld D (512 * (n - 1) + 80) 4 = 128 ∧ fld D (512 * (n - 1) + 84) 4 = 128) ∧
    fitsB D 512 512 = true ∧ fitsB D 512 (512 * (n - 1)) = true ∧
    protB (pcs D 0 512) (fld D 544 8 % 4294967296) = true := by
  refine ⟨by rw [S.g1, S.c1, S.a1]; simp, fun _ => S.f1, fun _ => S.f2, laid_fits (by rw [S.f1.1]; decide) S.f1.2.1 S.f1.2.2, laid_fits (by rw [S.f2.1]; omega) S.f2.2.1 S.f2.2.2, ?_⟩
  rw [S.o1, Int.emod_eq_of_lt (by omega) (by omega)]
  exact S.pr
theorem Stands.read2 (S : Stands D n g ps) (hn : 80 ≤ n ∧ n ≤ 1000000) : (hdrGood D (512 * (n - 1)) && decide (fld D (512 * (n - 1) + 24) 8 = ((n - 1 : Nat) : Int)) && decide (fld D (512 * (n - 1) + 88) 4 = crc32 (pcs D (512 * (n - 33)) 16384))) = true ∧ protB (pcs D 0 512) (fld D (512 * (n - 1) + 24) 8 % 4294967296) = true := by
  refine ⟨?_, ?_⟩
  · rw [S.g2, S.c2, S.a2, S.m2, decide_eq_true (p := (n : Int) - 1 = ((n - 1 : Nat) : Int)) (by omega)]; simp
  · rw [S.m2, Int.emod_eq_of_lt (by omega) (by omega)]; exact S.pr
/-- A byte of the first place's is spoilt. -/
theorem Stands.one (S : Stands D n g ps) (hn : 80 ≤ n ∧ n ≤ 1000000) {q : Nat} {c : UInt8} (hq : (512 ≤ q ∧ q < 604) ∨ (1024 ≤ q ∧ q < 17408)) (hc : D[q]? ≠ some c) :
    (D.set q c).length = n * 512 ∧
    (hdrGood (D.set q c) 512 && decide (fld (D.set q c) 600 4 = crc32 (pcs (D.set q c) 1024 16384))) = false ∧
    (hdrGood (D.set q c) (512 * (n - 1)) && decide (fld (D.set q c) (512 * (n - 1) + 24) 8 = ((n - 1 : Nat) : Int)) && decide (fld (D.set q c) (512 * (n - 1) + 88) 4 = crc32 (pcs (D.set q c) (512 * (n - 33)) 16384))) = true ∧
    (hdrGood (D.set q c) 512 = true → fld (D.set q c) 584 8 = 2 ∧ fld (D.set q c) 592 4 = 128 ∧ fld (D.set q c) 596 4 = 128) ∧
    (hdrGood (D.set q c) (512 * (n - 1)) = true → fld (D.set q c) (512 * (n - 1) + 72) 8 = ((n - 33 : Nat) : Int) ∧ fld (D.set q c) (512 * (n - 1) + 80) 4 = 128 ∧ fld (D.set q c) (512 * (n - 1) + 84) 4 = 128) ∧
    fitsB (D.set q c) 512 512 = true ∧ fitsB (D.set q c) 512 (512 * (n - 1)) = true ∧
    pcs (D.set q c) (512 * (n - 1) + 56) 16 = gB g ∧ protB (pcs (D.set q c) 0 512) (fld (D.set q c) (512 * (n - 1) + 24) 8 % 4294967296) = true ∧
    pcs (D.set q c) (512 * (n - 33)) 16384 = arrB ps := by
  have hl := S.len
  obtain ⟨r1, r2, r3, r4, r5, r6⟩ := S.read hn
  obtain ⟨b1, b2⟩ := S.read2 hn
  obtain ⟨s1, s2, s3⟩ := spoil (ds := D) (A := 512) (R := 1024) (q := q) (c := c) (by omega) (by omega) (by omega) hq hc S.k1 (by rw [S.a1]; exact S.c1)
  have hA : q < 512 * (n - 1) ∨ 512 * (n - 1) + 92 ≤ q := by omega
  refine ⟨by rw [List.length_set, hl], ?_, ?_, fun h => ?_, fun h => ?_, s3 r4, ?_, ?_, ?_, ?_⟩
  · rcases s1 with h | h
    · rw [h]; rfl
    · rw [decide_eq_false (p := fld (D.set q c) 600 4 = crc32 (pcs (D.set q c) 1024 16384)) h, Bool.and_false]
  · rw [(hdr_out hA).1, fld_set_out (by omega), fld_set_out (by omega), pcs_set_out (by omega)]; exact b1
  · obtain ⟨_, t⟩ := s2 h
    rw [t 584 8 (by decide) (by decide), t 592 4 (by decide) (by decide), t 596 4 (by decide) (by decide)]; exact S.f1
  · rw [fld_set_out (by omega), fld_set_out (by omega), fld_set_out (by omega)]; exact S.f2
  · rw [fits_out hA]; exact r5
  · rw [pcs_set_out (by omega)]; exact S.u2
  · rw [pcs_set_out (by omega), fld_set_out (by omega)]; exact b2
  · rw [pcs_set_out (by omega)]; exact S.a2
/-- A byte of either place's is spoilt. -/
theorem Stands.two (S : Stands D n g ps) (hn : 80 ≤ n ∧ n ≤ 1000000) {q p : Nat} {c d : UInt8} (hq : (512 ≤ q ∧ q < 604) ∨ (1024 ≤ q ∧ q < 17408)) (hc : D[q]? ≠ some c) (hp : (512 * (n - 1) ≤ p ∧ p < 512 * (n - 1) + 92) ∨ (512 * (n - 33) ≤ p ∧ p < 512 * (n - 33) + 16384)) (hd : (D.set q c)[p]? ≠ some d) :
    ((D.set q c).set p d).length = n * 512 ∧
    (hdrGood ((D.set q c).set p d) 512 && decide (fld ((D.set q c).set p d) 600 4 = crc32 (pcs ((D.set q c).set p d) 1024 16384))) = false ∧
    (hdrGood ((D.set q c).set p d) (512 * (n - 1)) && decide (fld ((D.set q c).set p d) (512 * (n - 1) + 24) 8 = ((n - 1 : Nat) : Int)) && decide (fld ((D.set q c).set p d) (512 * (n - 1) + 88) 4 = crc32 (pcs ((D.set q c).set p d) (512 * (n - 33)) 16384))) = false ∧
    (hdrGood ((D.set q c).set p d) 512 = true → fld ((D.set q c).set p d) 584 8 = 2 ∧ fld ((D.set q c).set p d) 592 4 = 128 ∧ fld ((D.set q c).set p d) 596 4 = 128) ∧
    (hdrGood ((D.set q c).set p d) (512 * (n - 1)) = true → fld ((D.set q c).set p d) (512 * (n - 1) + 72) 8 = ((n - 33 : Nat) : Int) ∧ fld ((D.set q c).set p d) (512 * (n - 1) + 80) 4 = 128 ∧ fld ((D.set q c).set p d) (512 * (n - 1) + 84) 4 = 128) ∧
    fitsB ((D.set q c).set p d) 512 512 = true ∧ fitsB ((D.set q c).set p d) 512 (512 * (n - 1)) = true := by
  have hl := S.len
  obtain ⟨t0, t1, t2, t3, t4, t5, t6, t7, t8, t9⟩ := S.one hn hq hc
  have hA : q < 512 * (n - 1) ∨ 512 * (n - 1) + 92 ≤ q := by omega
  have k2 : crcOk (D.set q c) (512 * (n - 1)) = true := by rw [(hdr_out hA).2.2]; exact S.k2
  obtain ⟨s1, s2, s3⟩ := spoil (ds := D.set q c) (A := 512 * (n - 1)) (R := 512 * (n - 33)) (q := p) (c := d) (by omega) (by omega) (by omega) hp hd k2 (by rw [t9, fld_set_out (by omega)]; exact S.c2)
  have hB : p < 512 ∨ 512 + 92 ≤ p := by omega
  refine ⟨by rw [List.length_set, t0], ?_, ?_, fun h => ?_, fun h => ?_, ?_, s3 t6⟩
  · rw [(hdr_out hB).1, fld_set_out (by omega), pcs_set_out (by omega)]; exact t1
  · rcases s1 with h | h
    · rw [h]; simp
    · rw [decide_eq_false (p := fld ((D.set q c).set p d) (512 * (n - 1) + 88) 4 = crc32 (pcs ((D.set q c).set p d) (512 * (n - 33)) 16384)) h, Bool.and_false]
  · have e := t3 (by rw [← (hdr_out hB).1]; exact h)
    rw [← fld_set_out (q := p) (c := d) (by omega), ← fld_set_out (p := 592) (q := p) (c := d) (by omega), ← fld_set_out (p := 596) (q := p) (c := d) (by omega)] at e
    exact e
  · obtain ⟨t, u⟩ := s2 h
    rw [u _ 8 (by omega) (by omega), u _ 4 (by omega) (by omega), u _ 4 (by omega) (by omega)]
    exact t4 t
  · rw [fits_out hB]; exact t5
end stands
end Go.Proofs.YthcaejaaalkglaaGreatDoor.X

/- Tables of the package's own kind, made of tables of the statements'. -/
namespace Go.Proofs.YthcaejaaalkglaaGreatDoor.X
set_option linter.unusedVariables false
open Go Go.RowKit
theorem perm_snoc2 {T : TypeId} {l : PL} {p : Nat} {cs : List Value} (e f : Ent) : ((⟨p, .cells cs.toArray T (0, 0), true⟩ : Ent) :: e :: f :: ents T l).Perm (e :: f :: ents T (l ++ [(p, cs)])) := perm_snoc (x := (p, cs)) [e, f]
/-- A partition's cells, as a table is made of. -/
def pcW (p : GP) : List Value := p.cells ++ [.int .i64 0, .int .i64 0]
/-- A table's cells, before it is first written. -/
def tbZ (D : Option Addr) (m c : Nat) (g : List UInt8) (pr rb : Bool) : List Value := tbC D m c 512 512 g pr rb 0 0 0 0 0 0 0 0 false
theorem snd_snoc {l : PL} {ps : List GP} {i : Nat} {p : GP} {b : Nat} (h : l.map Prod.snd = (ps.take i).map pcW) (hp : ps[i]? = some p) : (l ++ [(b, pcW p)]).map Prod.snd = (ps.take (i + 1)).map pcW := by
  rw [List.map_append, h, take_succ_get hp, List.map_append]; rfl
theorem u16_two {c : Nat} (h : 65535 < c) : (u16 c).length = 2 := by unfold u16; rw [if_pos (by omega)]; rfl
theorem u16_one {c : Nat} (h : ¬ 65535 < c) : (u16 c).length = 1 := by unfold u16; rw [if_neg (by omega)]; rfl
theorem units_at {bs : List UInt8} {pos : Nat} (h : pos < bs.length) : (utf16 (bs.drop pos)).length = (u16 (rune1 (bs.drop pos)).1).length + (utf16 (bs.drop (pos + (rune1 (bs.drop pos)).2))).length := by
  rw [utf16_at h, List.length_append]
theorem units_end {bs : List UInt8} {pos : Nat} (h : ¬ pos < bs.length) : (utf16 (bs.drop pos)).length = 0 := by
  rw [List.drop_of_length_le (by omega)]; rfl
end Go.Proofs.YthcaejaaalkglaaGreatDoor.X

/- Walks of functions, printed by a program of this claim. -/
namespace Go.Proofs.YthcaejaaalkglaaGreatDoor.X
set_option linter.unusedVariables false
set_option linter.unusedSimpArgs false
open Go Go.RowKit

namespace PF
theorem fo24_4 : fieldOff Tryz.prog 24 4 = some 4 := by kernel_rfl
theorem pl106_1 : placeOf Tryz.prog 106 1 = some (1, 1) := by kernel_rfl
theorem pl106_2 : placeOf Tryz.prog 106 2 = some (2, 1) := by kernel_rfl
theorem pl106_4 : placeOf Tryz.prog 106 4 = some (4, 1) := by kernel_rfl
theorem pl106_5 : placeOf Tryz.prog 106 5 = some (5, 1) := by kernel_rfl
theorem pl126_3 : placeOf Tryz.prog 126 3 = some (3, 1) := by kernel_rfl
end PF
open PF

set_option maxRecDepth 100000 in
set_option maxHeartbeats 4000000 in
theorem c_gptTable (w : World) (D : Option Addr) (m c : Nat) (g : List UInt8) (pr rc : Bool) (ps : List GP) (hq : RG w D m c ps) (hm : m ≤ 200) (hft : ∀ p ∈ ps, p.fit) (hun : ∀ p ∈ ps, (utf16 p.nm).length ≤ 36) : Calls Tryz.prog 37 #[.agg (gtCells D m c 512 g pr rc).toArray] w (Ret fun v w' => ∃ t D2 cap l, v = .tuple #[.pointer (some ⟨t, 0, none⟩), .bool true] ∧ l.map Prod.snd = ps.map pcW ∧ l.length = m ∧ (m = 0 → D2 = none) ∧ (m ≠ 0 → ∃ ad, D2 = some ad) ∧ OR 123 1 w [] w' (⟨t, .cells (tbZ D2 m cap g pr rc).toArray 106 (0, 0), true⟩ :: ents 126 l) D2 m cap (ptrs l)) := by
 refine enter (fun ρ => .tuple #[ρ 2, ρ 3]) Tryz.func37 rfl rfl rfl (res2 rfl) ?_
 have H := SH.nil w
 have hql := hq.len
 refine sq ?_
 refine rg ?_
 refine bx (v := .agg _) H rfl rfl rfl ?_
 clear H; intro b1 w1 hb1 H _
 refine asg (v := .pointer _) rfl rfl ?_
 refine asg (v := .bool _) rfl rfl ?_
 refine nl ?_
 refine then_n ?_
 refine sq ?_
 refine rg ?_
 refine fa rfl fo24_1 rfl ?_
 refine ld H rfl sc3 rfl rfl ?_
 refine cl ca47 (c_secAsked _ 512 (by decide)) rfl ?_
 rintro _ w2 ⟨rfl, F⟩
 replace H := H.keep F; clear F
 refine mv (v := .bool _) rfl rfl ?_
 refine spL (t := 12) (b := true) rfl ?_
 refine gy rfl ?_
 refine fa rfl fo24_0 rfl ?_
 refine gy rfl ?_
 refine ld H rfl sc22 rfl rfl ?_
 refine gy rfl ?_
 refine lnS rfl Tryz.underlying22 rfl ?_
 refine gy rfl ?_
 refine leq rfl rfl rfl ?_
 refine pkT (v := .bool _) rfl rfl rfl ?_
 refine asgN (v' := .bool true) rfl (congrArg Value.bool (decide_eq_true (by omega))) rfl ?_
 refine nl ?_
 refine then_n ?_
 refine sq ?_
 refine rg ?_
 refine fa rfl fo24_1 rfl ?_
 refine ld H rfl sc3 rfl rfl ?_
 refine fa rfl fo24_1 rfl ?_
 refine ld H rfl sc3 rfl rfl ?_
 refine fa rfl fo24_2 rfl ?_
 refine ld H rfl sc9 rfl rfl ?_
 refine fa rfl fo24_3 rfl ?_
 refine ld H rfl sc4 rfl rfl ?_
 refine fa rfl fo24_4 rfl ?_
 refine ld H rfl sc4 rfl rfl ?_
 refine bu (out := ?o1) ze106 bo106 ?f1 rfl ?_
 case f1 =>
  refine FL.one (v := .int .i64 _) rfl pl106_1 rfl (by first | decide | simp) ?_
  refine FL.one (v := .int .i64 _) rfl pl106_2 rfl (by first | decide | simp) ?_
  refine FL.one (v := .string _) rfl pl106_3 rfl (by first | decide | simp) ?_
  refine FL.one (v := .bool _) rfl pl106_4 rfl (by first | decide | simp) ?_
  refine FL.one (v := .bool _) rfl pl106_5 rfl (by first | decide | simp) ?_
  exact FL.nil
 refine bx (v := .agg _) H rfl rfl rfl ?_
 clear H; intro b2 w3 hb2 H _
 refine asg (v := .pointer _) rfl rfl ?_
 refine nl ?_
 refine then_n ?_
 refine sq ?_
 refine sq ?_
 refine rg ?_
 replace H := sh_cells0 (cs' := tbZ none 0 0 g pr rc) H rfl
 refine fa rfl fo24_0 rfl ?_
 refine ld H rfl sc22 rfl rfl ?_
 refine lnS rfl Tryz.underlying22 rfl ?_
 refine mv (v := .int .i64 _) rfl rfl ?_
 refine nl ?_
 refine then_n ?_
 refine bk ?_
 refine lpM (α := Nat × Option Addr × Nat × PL) [3, 5, 6, 8, 33, 34, 35, 36, 37, 38, 39, 40, 41, 42, 43, 44, 45, 46, 47, 48, 49, 50, 51, 52, 53, 54, 55, 56, 57, 58, 59, 60, 61, 62, 63, 64, 65, 66, 67, 68, 69, 70, 71, 72, 73, 74, 75, 76, 77, 78, 79, 80, 81] (fun (i, D2, cap, l) => [(3, .bool true), (33, .int .i64 (i : Int))]) (fun (i, D2, cap, l) w' => i ≤ m ∧ l.length = i ∧ l.map Prod.snd = (ps.take i).map pcW ∧ (i = 0 → D2 = none) ∧ OR 123 1 w [] w' (⟨b2, .cells (tbZ D2 i cap g pr rc).toArray 106 (0, 0), true⟩ :: ⟨b1, .cells (gtCells D m c 512 g pr rc).toArray 24 (0, 0), true⟩ :: ents 126 l) D2 i cap (ptrs l)) (fun (i, D2, cap, l) => m - i) (0, none, 0, []) ?_ (fC (by first | rfl | exact congrArg (Value.int _) (by first | omega | assumption | (symm; assumption) | (simp; done) | (simp; omega)) | exact congrArg (fun n => Value.slice _ n _) (by first | omega | (simp; done) | (simp; omega))) (fC (by first | rfl | exact congrArg (Value.int _) (by first | omega | assumption | (symm; assumption) | (simp; done) | (simp; omega)) | exact congrArg (fun n => Value.slice _ n _) (by first | omega | (simp; done) | (simp; omega))) (fN _))) ?_
 ·exact ⟨by omega, rfl, rfl, fun _ => rfl, OR.nil H⟩
 ·rintro ⟨i, D2, cap, l⟩ ρx w4 ⟨hi, hll, hro, hA0, O⟩
  have H := O.sh
  refine sq ?_
  refine rg ?_
  refine lss rfl rfl rfl ?_
  refine nl ?_
  refine then_n ?_
  refine sq ?_
  refine cd rfl (fun hc1 => ?_) (fun hc1 => ?_)
  ·obtain ⟨p, hpi⟩ : ∃ p, ps[i]? = some p := ⟨_, List.getElem?_eq_getElem (by omega)⟩
   obtain ⟨ad, rfl⟩ := hq.some_of (by omega)
   have hpm := List.mem_of_getElem? hpi
   have hnl := (hft p hpm).nm
   have hpu := hun p hpm
   refine sk ?_
   refine then_n ?_
   refine sq ?_
   refine bk ?_
   refine sq ?_
   refine rg ?_
   refine iBN (ad.add (i * 8)) rfl rfl Tryz.underlying22 sz54_8 (by omega) (by simp) rfl ?_
   refine lw (vs := p.cells) rfl ag54_8 rfl (fun j v h => H.fr.cell (hq.elem hpi j v h) (by simp)) rfl ?_
   refine al H ze54 rfl ?_
   intro b3 w5 hb3 H1 F; replace O := O.new F hb3 H1.look; clear H H1 F; have H := O.sh
   refine sa (cs' := p.cells) H rfl rfl ag54_8 rfl rfl (by decide) (by omega) rfl ?_
   intro w96 H96 F96; replace O := O.put F96 H96.look; clear H H96 F96; have H := O.sh
   refine nl ?_
   refine then_n ?_
   refine sq ?_
   refine rg ?_
   refine asg (v := .int .i64 _) rfl rfl ?_
   refine nl ?_
   refine then_n ?_
   refine sq ?_
   refine sq ?_
   refine rg ?_
   refine fa rfl fo54_5 rfl ?_
   refine ld H rfl sc9 rfl rfl ?_
   refine rngS H rfl Tryz.underlying9 rfl ?_
   intro b4 w6 hb4 H1 F; replace O := O.new F hb4 H1.look; clear H H1 F; have H := O.sh
   refine nl ?_
   refine then_n ?_
   refine bk ?_
   refine lpM (α := Nat × Nat) [6, 8, 40, 41, 42, 43, 44, 45, 46, 47, 48] (fun (q, k) => [(6, .int .i64 (k : Int))]) (fun (q, k) w' => q ≤ p.nm.length ∧ k ≤ 2 * q ∧ k + (utf16 (p.nm.drop q)).length = (utf16 p.nm).length ∧ OR 123 1 w [] w' (⟨b4, .stringIter (str p.nm) q, true⟩ :: ⟨b3, .cells p.cells.toArray 54 (0, 0), true⟩ :: ⟨b2, .cells (tbZ D2 i cap g pr rc).toArray 106 (0, 0), true⟩ :: ⟨b1, .cells (gtCells (some ad) m c 512 g pr rc).toArray 24 (0, 0), true⟩ :: ents 126 l) D2 i cap (ptrs l)) (fun (q, k) => p.nm.length - q) (0, 0) ?_ (fC (by first | rfl | exact congrArg (Value.int _) (by first | omega | assumption | (symm; assumption) | (simp; done) | (simp; omega)) | exact congrArg (fun n => Value.slice _ n _) (by first | omega | (simp; done) | (simp; omega))) (fN _)) ?_
   ·exact ⟨by omega, by omega, by simp, O⟩
   ·rintro ⟨q, k⟩ ρx w7 ⟨hqq, hk, hus, O⟩
    have H := O.sh
    refine sq ?_
    refine rg ?_
    refine nxt H rfl rfl ?_
    intro w8 H1 F; replace O := O.put F H1.look; clear H H1 F; have H := O.sh
    refine xt rfl (next0 _ _) rfl ?_
    refine nl ?_
    refine then_n ?_
    refine sq ?_
    refine cd rfl (fun hc2 => ?_) (fun hc2 => ?_)
    ·have hlt : q < p.nm.length := by assumption
     rw [nextP_of hlt] at O H
     obtain ⟨r1, r2, r3, r4, r5, r6, _⟩ := rune_at hlt
     rw [List.length_drop] at r2
     have hua := units_at hlt
     refine sk ?_
     refine then_n ?_
     refine bk ?_
     refine sq ?_
     refine rg ?_
     refine xt rfl (next2 (by omega)) rfl ?_
     refine asg (v := .int .i32 _) rfl rfl ?_
     refine nl ?_
     refine then_n ?_
     refine sq ?_
     refine rg ?_
     refine mv (v := .int .i64 _) rfl rfl ?_
     refine add rfl rfl (by first | exact w_i64 (by omega) | exact w_i64 (rng_i64 _) | rfl) rfl ?_
     refine asg (v := .int .i64 _) rfl rfl ?_
     refine nl ?_
     refine then_n ?_
     refine sq ?_
     refine rg ?_
     refine mv (v := .int .i32 _) rfl rfl ?_
     refine gtr rfl rfl rfl ?_
     refine nl ?_
     refine then_n ?_
     refine cd rfl (fun hc3 => ?_) (fun hc3 => ?_)
     ·have hu2 := u16_two (c := (rune1 (p.nm.drop q)).1) (by omega)
      refine rg ?_
      refine mv (v := .int .i64 _) rfl rfl ?_
      refine add rfl rfl (by first | exact w_i64 (by omega) | exact w_i64 (rng_i64 _) | rfl) rfl ?_
      refine asg (v := .int .i64 _) rfl rfl ?_
      refine nl ?_
      refine in_n ?_
      refine loop_n ?_
      exact ⟨(q + (rune1 (p.nm.drop q)).2, k + 2), (by (try dsimp only); omega), ⟨by omega, by omega, by omega, O⟩, (fC (by first | rfl | exact congrArg (Value.int _) (by first | omega | assumption | (symm; assumption) | (simp; done) | (simp; omega)) | exact congrArg (fun n => Value.slice _ n _) (by first | omega | (simp; done) | (simp; omega))) (fN _)), (by repeat (first | exact Agree.setL rfl Agree.mask | exact Agree.self _ _ | refine Agree.upd rfl ?_ | refine Agree.setL rfl ?_ | refine Agree.mask2 rfl ?_))⟩
     ·have hu1 := u16_one (c := (rune1 (p.nm.drop q)).1) (by omega)
      refine sk ?_
      refine in_n ?_
      refine loop_n ?_
      exact ⟨(q + (rune1 (p.nm.drop q)).2, k + 1), (by (try dsimp only); omega), ⟨by omega, by omega, by omega, O⟩, (fC (by first | rfl | exact congrArg (Value.int _) (by first | omega | assumption | (symm; assumption) | (simp; done) | (simp; omega)) | exact congrArg (fun n => Value.slice _ n _) (by first | omega | (simp; done) | (simp; omega))) (fN _)), (by repeat (first | exact Agree.setL rfl Agree.mask | exact Agree.self _ _ | refine Agree.upd rfl ?_ | refine Agree.setL rfl ?_ | refine Agree.mask2 rfl ?_))⟩
    ·have hue : (utf16 (p.nm.drop q)).length = 0 := units_end (by assumption)
     rw [nextP_end (by assumption)] at O H
     refine ex ?_
     refine then_e ?_
     refine loop_e ?_
     refine in_hit rfl ?_
     refine then_n ?_
     refine sq ?_
     refine rg ?_
     refine mv (v := .bool _) rfl rfl ?_
     refine mv (v := .bool _) rfl rfl ?_
     refine spL (t := 50) (b := true) rfl ?_
     refine gy rfl ?_
     refine mv (v := .int .i64 _) rfl rfl ?_
     refine gy rfl ?_
     refine leq rfl rfl rfl ?_
     refine pkT (v := .bool _) rfl rfl rfl ?_
     refine asgN (v' := .bool true) rfl (congrArg Value.bool (decide_eq_true (by omega))) rfl ?_
     refine nl ?_
     refine then_n ?_
     refine dr (by kernel_rfl) ?_
     have H := H.drew
     replace O := O.drew
     refine hold (fun w' => SH w [] w' [⟨b3, .cells p.cells.toArray 54 (0, 0), true⟩, ⟨b2, .cells (tbZ D2 i cap g pr rc).toArray 106 (0, 0), true⟩]) [27] ?_
     refine tk (i := 0) rfl (by kernel_rfl) rfl (H.sub (by repeat (first | exact List.Sublist.refl _ | exact List.nil_sublist _ | apply List.Sublist.cons_cons | apply List.Sublist.cons))) (fun w' H => r_mv (v := .pointer _) rfl) ?_
     refine tk (i := 1) rfl (by kernel_rfl) rfl (H.sub (by repeat (first | exact List.Sublist.refl _ | exact List.nil_sublist _ | apply List.Sublist.cons_cons | apply List.Sublist.cons))) (fun w' H => r_mv (v := .pointer _) rfl) ?_
     refine tk (i := 2) rfl (by kernel_rfl) rfl (H.sub (by repeat (first | exact List.Sublist.refl _ | exact List.nil_sublist _ | apply List.Sublist.cons_cons | apply List.Sublist.cons))) (fun w' H => r_nc rfl) ?_
     refine tk (i := 3) rfl (by kernel_rfl) rfl (H.sub (by repeat (first | exact List.Sublist.refl _ | exact List.nil_sublist _ | apply List.Sublist.cons_cons | apply List.Sublist.cons))) (fun w' H => r_fa rfl fo106_0) ?_
     refine tk (i := 4) rfl (by kernel_rfl) rfl (H.sub (by repeat (first | exact List.Sublist.refl _ | exact List.nil_sublist _ | apply List.Sublist.cons_cons | apply List.Sublist.cons))) (fun w' H => r_ld H rfl sc104 rfl) ?_
     refine tk (i := 5) rfl (by kernel_rfl) rfl (H.sub (by repeat (first | exact List.Sublist.refl _ | exact List.nil_sublist _ | apply List.Sublist.cons_cons | apply List.Sublist.cons))) (fun w' H => r_fa rfl fo54_0) ?_
     refine tk (i := 6) rfl (by kernel_rfl) rfl (H.sub (by repeat (first | exact List.Sublist.refl _ | exact List.nil_sublist _ | apply List.Sublist.cons_cons | apply List.Sublist.cons))) (fun w' H => r_ld H rfl sc3 rfl) ?_
     refine tk (i := 7) rfl (by kernel_rfl) rfl (H.sub (by repeat (first | exact List.Sublist.refl _ | exact List.nil_sublist _ | apply List.Sublist.cons_cons | apply List.Sublist.cons))) (fun w' H => r_fa rfl fo54_1) ?_
     refine tk (i := 8) rfl (by kernel_rfl) rfl (H.sub (by repeat (first | exact List.Sublist.refl _ | exact List.nil_sublist _ | apply List.Sublist.cons_cons | apply List.Sublist.cons))) (fun w' H => r_ld H rfl sc28 rfl) ?_
     refine tk (i := 9) rfl (by kernel_rfl) rfl (H.sub (by repeat (first | exact List.Sublist.refl _ | exact List.nil_sublist _ | apply List.Sublist.cons_cons | apply List.Sublist.cons))) (fun w' H => r_fa rfl fo54_2) ?_
     refine tk (i := 10) rfl (by kernel_rfl) rfl (H.sub (by repeat (first | exact List.Sublist.refl _ | exact List.nil_sublist _ | apply List.Sublist.cons_cons | apply List.Sublist.cons))) (fun w' H => r_ld H rfl sc28 rfl) ?_
     refine tk (i := 11) rfl (by kernel_rfl) rfl (H.sub (by repeat (first | exact List.Sublist.refl _ | exact List.nil_sublist _ | apply List.Sublist.cons_cons | apply List.Sublist.cons))) (fun w' H => r_fa rfl fo54_3) ?_
     refine tk (i := 12) rfl (by kernel_rfl) rfl (H.sub (by repeat (first | exact List.Sublist.refl _ | exact List.nil_sublist _ | apply List.Sublist.cons_cons | apply List.Sublist.cons))) (fun w' H => r_ld H rfl sc28 rfl) ?_
     refine tk (i := 13) rfl (by kernel_rfl) rfl (H.sub (by repeat (first | exact List.Sublist.refl _ | exact List.nil_sublist _ | apply List.Sublist.cons_cons | apply List.Sublist.cons))) (fun w' H => r_fa rfl fo54_4) ?_
     refine tk (i := 14) rfl (by kernel_rfl) rfl (H.sub (by repeat (first | exact List.Sublist.refl _ | exact List.nil_sublist _ | apply List.Sublist.cons_cons | apply List.Sublist.cons))) (fun w' H => r_ld H rfl sc9 rfl) ?_
     refine tk (i := 15) rfl (by kernel_rfl) rfl (H.sub (by repeat (first | exact List.Sublist.refl _ | exact List.nil_sublist _ | apply List.Sublist.cons_cons | apply List.Sublist.cons))) (fun w' H => r_fa rfl fo54_5) ?_
     refine tk (i := 16) rfl (by kernel_rfl) rfl (H.sub (by repeat (first | exact List.Sublist.refl _ | exact List.nil_sublist _ | apply List.Sublist.cons_cons | apply List.Sublist.cons))) (fun w' H => r_ld H rfl sc9 rfl) ?_
     refine tk (i := 17) rfl (by kernel_rfl) rfl (H.sub (by repeat (first | exact List.Sublist.refl _ | exact List.nil_sublist _ | apply List.Sublist.cons_cons | apply List.Sublist.cons))) (fun w' H => r_fa rfl fo54_6) ?_
     refine tk (i := 18) rfl (by kernel_rfl) rfl (H.sub (by repeat (first | exact List.Sublist.refl _ | exact List.nil_sublist _ | apply List.Sublist.cons_cons | apply List.Sublist.cons))) (fun w' H => r_ld H rfl sc9 rfl) ?_
     refine tk (i := 19) rfl (by kernel_rfl) rfl (H.sub (by repeat (first | exact List.Sublist.refl _ | exact List.nil_sublist _ | apply List.Sublist.cons_cons | apply List.Sublist.cons))) (fun w' H => r_fa rfl fo54_7) ?_
     refine tk (i := 20) rfl (by kernel_rfl) rfl (H.sub (by repeat (first | exact List.Sublist.refl _ | exact List.nil_sublist _ | apply List.Sublist.cons_cons | apply List.Sublist.cons))) (fun w' H => r_ld H rfl sc28 rfl) ?_
     refine tkbu (out := ?o2) (i := 21) rfl (by kernel_rfl) rfl (H.sub (by repeat (first | exact List.Sublist.refl _ | exact List.nil_sublist _ | apply List.Sublist.cons_cons | apply List.Sublist.cons))) ze126 bo126 ?f2 ?_
     case f2 =>
      refine FL.one (v := .int .i64 _) rfl pl126_0 rfl (by first | decide | simp) ?_
      refine FL.one (v := .int .u64 _) rfl pl126_1 rfl (by first | decide | simp) ?_
      refine FL.one (v := .int .u64 _) rfl pl126_2 rfl (by first | decide | simp) ?_
      refine FL.one (v := .int .u64 _) rfl pl126_3 rfl (by first | decide | simp) ?_
      refine FL.one (v := .string _) rfl pl126_4 rfl (by first | decide | simp) ?_
      refine FL.one (v := .string _) rfl pl126_5 rfl (by first | decide | simp) ?_
      refine FL.one (v := .string _) rfl pl126_6 rfl (by first | decide | simp) ?_
      refine FL.one (v := .int .u64 _) rfl pl126_7 rfl (by first | decide | simp) ?_
      exact FL.nil
     refine fk (i := 22) (by kernel_rfl) rfl rfl rfl ?_
     refine bx (v := .agg _) H rfl rfl rfl ?_
     intro b5 w9 hb5 H1 F; replace O := O.new F hb5 H1.look; clear H H1 F; have H := O.sh
     refine nl ?_
     refine then_n ?_
     refine ⟨H.sub (by repeat (first | exact List.Sublist.refl _ | exact List.nil_sublist _ | apply List.Sublist.cons_cons | apply List.Sublist.cons)), ?_⟩
     refine fk (i := 23) (by kernel_rfl) rfl rfl rfl ?_
     refine bsl (sz := 1) (out := ?o3) H Tryz.underlying104 ze123 sz123_1 (by decide) ?f3 rfl ?_
     case f3 =>
      refine FS.one (v := .pointer _) rfl rfl rfl (by first | decide | simp) ?_
      exact FS.nil
     intro b6 w10 hb6 H1 F; replace O := O.new F hb6 H1.look; clear H H1 F; have H := O.sh
     refine nl ?_
     refine then_n ?_
     refine ⟨H.sub (by repeat (first | exact List.Sublist.refl _ | exact List.nil_sublist _ | apply List.Sublist.cons_cons | apply List.Sublist.cons)), ?_⟩
     refine fk (i := 24) (by kernel_rfl) rfl rfl rfl ?_
     refine apO (zs := [.pointer none]) [.pointer (some ⟨_, 0, none⟩)] O rfl rfl Tryz.underlying104 ri123 rfl (cells_look H.look) (by simp [Value.oneCell']) (by simp) (by omega) (by unfold maxLen; omega) rfl ?_
     clear O H; intro A9 cp9 w11 O
     have H := O.sh
     refine nl ?_
     refine then_n ?_
     refine ⟨H.sub (by repeat (first | exact List.Sublist.refl _ | exact List.nil_sublist _ | apply List.Sublist.cons_cons | apply List.Sublist.cons)), ?_⟩
     refine fk (i := 25) (by kernel_rfl) rfl rfl rfl ?_
     refine nc rfl rfl ?_
     refine nl ?_
     refine then_n ?_
     refine ⟨H.sub (by repeat (first | exact List.Sublist.refl _ | exact List.nil_sublist _ | apply List.Sublist.cons_cons | apply List.Sublist.cons)), ?_⟩
     refine tk (i := 26) rfl (by kernel_rfl) rfl (H.sub (by repeat (first | exact List.Sublist.refl _ | exact List.nil_sublist _ | apply List.Sublist.cons_cons | apply List.Sublist.cons))) (fun w' H => r_fa rfl fo106_0) ?_
     refine fb (i := 27) (by kernel_rfl) rfl rfl rfl ?_
     refine st (v := .slice _ _ _) H rfl rfl sc104 rfl (by show 0 + 0 < 15; decide) (by omega) ?_
     intro w95 H1 F; replace O := O.put F H1.look; clear H H1 F; have H := O.sh
     refine nl ?_
     refine then_n ?_
     refine dn (by kernel_rfl) ?_
     refine in_n ?_
     refine then_n ?_
     refine rg ?_
     refine add rfl rfl (by first | exact w_i64 (by omega) | exact w_i64 (rng_i64 _) | rfl) rfl ?_
     refine mv (v := .int .i64 _) rfl rfl ?_
     refine nl ?_
     refine loop_n ?_
     exact ⟨(i + 1, A9, cp9, l ++ [(_, pcW p)]), (by (try dsimp only); omega), ⟨by omega, by simp [hll], snd_snoc hro hpi, fun h => by omega, by rw [ptrs_snoc]; exact (O.sub (by repeat (first | exact List.Sublist.refl _ | exact List.nil_sublist _ | apply List.Sublist.cons_cons | apply List.Sublist.cons))).perm (perm_snoc2 _ _)⟩, (fC (by first | rfl | exact congrArg (Value.int _) (by first | omega | assumption | (symm; assumption) | (simp; done) | (simp; omega)) | exact congrArg (fun n => Value.slice _ n _) (by first | omega | (simp; done) | (simp; omega))) (fC (by first | rfl | exact congrArg (Value.int _) (by first | omega | assumption | (symm; assumption) | (simp; done) | (simp; omega)) | exact congrArg (fun n => Value.slice _ n _) (by first | omega | (simp; done) | (simp; omega))) (fN _))), (by repeat (first | exact Agree.setL rfl Agree.mask | exact Agree.self _ _ | refine Agree.upd rfl ?_ | refine Agree.setL rfl ?_ | refine Agree.mask2 rfl ?_))⟩
  ·refine ex ?_
   refine then_e ?_
   refine loop_e ?_
   refine in_hit rfl ?_
   refine then_n ?_
   refine sq ?_
   refine rg ?_
   refine mv (v := .pointer _) rfl rfl ?_
   refine mv (v := .bool _) rfl rfl ?_
   refine asg (v := .pointer _) rfl rfl ?_
   refine asg (v := .bool _) rfl rfl ?_
   refine nl ?_
   refine then_n ?_
   refine rt ?_
   refine fin_r ?_
   obtain rfl : i = m := by omega
   rw [List.take_of_length_le (by omega)] at hro
   refine ⟨b2, D2, cap, l, rfl, hro, hll, hA0, fun h => ?_, O.sub (by repeat (first | exact List.Sublist.refl _ | exact List.nil_sublist _ | apply List.Sublist.cons_cons | apply List.Sublist.cons))⟩
   exact O.some_of (by omega)

end Go.Proofs.YthcaejaaalkglaaGreatDoor.X

/- What is written of identifiers and partitions. -/
namespace Go.Proofs.YthcaejaaalkglaaGreatDoor.X
set_option linter.unusedVariables false
set_option linter.unusedSimpArgs false
open Go Go.RowKit
/-- The bytes of an identifier, as far as they have been read. -/
def parP (s : List UInt8) (i : Nat) : List UInt8 := (tPos.take i).map (byteAt s) ++ List.replicate (16 - i) 0
theorem parP_end (s : List UInt8) : parP s 16 = parB s := by unfold parP parB; simp; rfl
theorem parP_len (s : List UInt8) {i : Nat} (h : i ≤ 16) : (parP s i).length = 16 := by
  unfold parP
  rw [List.length_append, List.length_map, List.length_take, List.length_replicate]
  have : tPos.length = 16 := rfl
  omega
theorem parP_step (s : List UInt8) {i : Nat} (h : i < 16) : (parP s i).set i (byteAt s (tPos.getD i 0)) = parP s (i + 1) := by
  have ht : tPos.length = 16 := rfl
  unfold parP
  have e : tPos[i]? = some (tPos.getD i 0) := by
    rw [List.getD_eq_getElem?_getD, List.getElem?_eq_getElem (by omega)]; rfl
  have hl : ((tPos.take i).map (byteAt s)).length = i := by rw [List.length_map, List.length_take]; omega
  rw [List.set_append_right _ _ (by omega), hl, Nat.sub_self, take_succ_get e, List.map_append, List.append_assoc]
  congr 1
  rw [show 16 - i = (16 - (i + 1)) + 1 by omega, List.replicate_succ]
  rfl
theorem tpos_get {k : Nat} (h : k < 16) : (tPos.map fun (k : Nat) => Value.int .i64 (k : Int))[k]? = some (.int .i64 ((tPos.getD k 0 : Nat) : Int)) := by
  have ht : tPos.length = 16 := rfl
  rw [List.getElem?_map, List.getD_eq_getElem?_getD, List.getElem?_eq_getElem (by omega)]; rfl
theorem tpos_lt : ∀ k : Fin 16, tPos.getD k.val 0 + 1 < 36 ∧ dashB (tPos.getD k.val 0) = false ∧ dashB (tPos.getD k.val 0 + 1) = false := by decide +kernel
theorem nib_rng {s : List UInt8} (h : gOk s = true) {j : Nat} (hj : j < 36) (hd : dashB j = false) : 0 ≤ nib s j ∧ nib s j ≤ 15 := by
  have := (gOk_at h).2 j hj
  unfold okAt at this
  rw [hd] at this
  simp at this
  exact ⟨this, (hexN_rng _).2⟩
theorem dash_at {s : List UInt8} (h : gOk s = true) {j : Nat} (hj : j < 36) (hd : dashB j = true) : ((s.getD j 0).toNat : Int) = 45 := by
  have := (gOk_at h).2 j hj
  unfold okAt at this
  rw [hd, if_pos rfl] at this
  have h2 := beq_iff_eq.1 this
  omega
theorem or_i64 {x y : Int} (hx : 0 ≤ x ∧ x ≤ 15) (hy : 0 ≤ y ∧ y ≤ 15) : bits .or .i64 (x * 16) y = x * 16 + y := by
  obtain ⟨a, rfl⟩ := Int.eq_ofNat_of_zero_le hx.1
  obtain ⟨b, rfl⟩ := Int.eq_ofNat_of_zero_le hy.1
  have e : bits .or .i64 ((a : Int) * 16) (b : Int) = IntKind.i64.wrap ((BitVec.ofInt 64 ((a : Int) * 16) ||| BitVec.ofInt 64 (b : Int)).toNat : Int) := rfl
  have h1 : (BitVec.ofInt 64 ((a : Int) * 16)).toNat = a * 2 ^ 4 := by rw [BitVec.toNat_ofInt]; omega
  have h2 : (BitVec.ofInt 64 (b : Int)).toNat = b := by rw [BitVec.toNat_ofInt]; omega
  rw [e, BitVec.toNat_or, h1, h2, Nat.or_comm, or_shift (by omega), w_i64 (by omega)]
  omega
/-- A partition whose identifier has been spelt anew. -/
def upG (p : GP) : GP := { p with gu := gT (gB p.gu) }
theorem upG_gB (p : GP) : gB (upG p).gu = gB p.gu := gB_gT (gB_len _)
theorem upG_ok (p : GP) : gOk (upG p).gu = true := (gT_ok (gB_len _)).1
theorem upG_upG (p : GP) : upG (upG p) = upG p := by
  unfold upG; simp only [gB_gT (gB_len _)]
theorem upG_good {n : Nat} {p : GP} (h : p.good n) : (upG p).good n :=
  ⟨h.ty, upG_ok p, h.tz, by
    have := sameG_gTz h.gu h.gz
    exact this, h.un, h.nm, h.ix, h.st, h.en, h.la, h.sz⟩
theorem upG_entB (p : GP) : entB (upG p) = entB p := by
  unfold entB entH
  rw [upG_gB]; rfl
theorem spelt {s : List UInt8} (h : gOk s = true) : upL (sT (parB s)) = gT (gB s) := by
  rw [gB_ok h, ← up_sT (b := gRaw s) (by rw [← gB_ok h]; exact gB_len s), perm_raw]
theorem ty_ne {p : GP} (ht : gOk p.ty = true) (hz : sameG p.ty zG = false) : p.ty ≠ zG := by
  intro e
  rw [e] at hz
  unfold sameG at hz
  rw [gOk_zG] at hz
  simp at hz
theorem gu_ne {s : List UInt8} (h : gOk s = true) : s ≠ [] := by
  intro e; subst e
  exact absurd h (by decide)
end Go.Proofs.YthcaejaaalkglaaGreatDoor.X

/- Walks of functions, printed by a program of this claim. -/
namespace Go.Proofs.YthcaejaaalkglaaGreatDoor.X
set_option linter.unusedVariables false
set_option linter.unusedSimpArgs false
open Go Go.RowKit

namespace PF
theorem ca84 : callable Tryz.prog 84 = true := by kernel_rfl
end PF
open PF

set_option maxRecDepth 100000 in
set_option maxHeartbeats 1000000 in
theorem c_digit (w : World) (c : UInt8) : Calls Tryz.prog 84 #[.int .u8 (c.toNat : Int)] w (Ret fun v w' => v = .int .i64 (hexN (c.toNat : Int)) ∧ Fr [] w w') := by
 refine enter (fun ρ => ρ 2) Tryz.func84 rfl rfl rfl (res1 rfl) ?_
 have H := SH.nil w
 have hx := u8_lt c
 refine sq ?_
 refine rg ?_
 refine asg (v := .int .i64 _) rfl rfl ?_
 refine nl ?_
 refine then_n ?_
 refine sq ?_
 refine bk ?_
 refine sq ?_
 refine rg ?_
 refine mv (v := .int .u8 _) rfl rfl ?_
 refine geq rfl rfl rfl ?_
 refine mv (v := .bool _) rfl rfl ?_
 refine spd (t := 6) rfl (fun hg1 => ?_) (fun hg1 => ?_)
 ·refine gy rfl ?_
  refine mv (v := .int .u8 _) rfl rfl ?_
  refine gy rfl ?_
  refine leq rfl rfl rfl ?_
  refine pkT (v := .bool _) rfl rfl rfl ?_
  refine asg (v := .bool _) rfl rfl ?_
  refine nl ?_
  refine then_n ?_
  refine cd rfl (fun hc1 => ?_) (fun hc1 => ?_)
  ·refine sq ?_
   refine rg ?_
   refine mv (v := .int .u8 _) rfl rfl ?_
   refine sub rfl rfl (by first | exact w_u8 (by omega) | exact w_u8 (rng_u8 _) | exact m_u8 _) rfl ?_
   refine cvi rfl rfl Tryz.underlying3 (by first | exact w_i64 (by omega) | exact w_i64 (rng_i64 _) | rfl) rfl ?_
   refine asg (v := .int .i64 _) rfl rfl ?_
   refine nl ?_
   refine then_n ?_
   refine rt ?_
   refine in_r ?_
   refine then_r ?_
   refine fin_r ?_
   refine ⟨congrArg (Value.int .i64) ?_, H.fr⟩
   unfold hexN; omega
  ·refine sq ?_
   refine rg ?_
   refine mv (v := .int .u8 _) rfl rfl ?_
   refine geq rfl rfl rfl ?_
   refine mv (v := .bool _) rfl rfl ?_
   refine spd (t := 16) rfl (fun hg2 => ?_) (fun hg2 => ?_)
   ·refine gy rfl ?_
    refine mv (v := .int .u8 _) rfl rfl ?_
    refine gy rfl ?_
    refine leq rfl rfl rfl ?_
    refine pkT (v := .bool _) rfl rfl rfl ?_
    refine asg (v := .bool _) rfl rfl ?_
    refine nl ?_
    refine then_n ?_
    refine cd rfl (fun hc2 => ?_) (fun hc2 => ?_)
    ·refine sq ?_
     refine rg ?_
     refine mv (v := .int .u8 _) rfl rfl ?_
     refine sub rfl rfl (by first | exact w_u8 (by omega) | exact w_u8 (rng_u8 _) | exact m_u8 _) rfl ?_
     refine cvi rfl rfl Tryz.underlying3 (by first | exact w_i64 (by omega) | exact w_i64 (rng_i64 _) | rfl) rfl ?_
     refine add rfl rfl (by first | exact w_i64 (by omega) | exact w_i64 (rng_i64 _) | rfl) rfl ?_
     refine asg (v := .int .i64 _) rfl rfl ?_
     refine nl ?_
     refine then_n ?_
     refine rt ?_
     refine in_r ?_
     refine then_r ?_
     refine fin_r ?_
     refine ⟨congrArg (Value.int .i64) ?_, H.fr⟩
     unfold hexN; omega
    ·refine sq ?_
     refine rg ?_
     refine mv (v := .int .u8 _) rfl rfl ?_
     refine geq rfl rfl rfl ?_
     refine mv (v := .bool _) rfl rfl ?_
     refine spd (t := 27) rfl (fun hg3 => ?_) (fun hg3 => ?_)
     ·refine gy rfl ?_
      refine mv (v := .int .u8 _) rfl rfl ?_
      refine gy rfl ?_
      refine leq rfl rfl rfl ?_
      refine pkT (v := .bool _) rfl rfl rfl ?_
      refine asg (v := .bool _) rfl rfl ?_
      refine nl ?_
      refine then_n ?_
      refine cd rfl (fun hc3 => ?_) (fun hc3 => ?_)
      ·refine sq ?_
       refine rg ?_
       refine mv (v := .int .u8 _) rfl rfl ?_
       refine sub rfl rfl (by first | exact w_u8 (by omega) | exact w_u8 (rng_u8 _) | exact m_u8 _) rfl ?_
       refine cvi rfl rfl Tryz.underlying3 (by first | exact w_i64 (by omega) | exact w_i64 (rng_i64 _) | rfl) rfl ?_
       refine add rfl rfl (by first | exact w_i64 (by omega) | exact w_i64 (rng_i64 _) | rfl) rfl ?_
       refine asg (v := .int .i64 _) rfl rfl ?_
       refine nl ?_
       refine then_n ?_
       refine rt ?_
       refine in_r ?_
       refine then_r ?_
       refine fin_r ?_
       refine ⟨congrArg (Value.int .i64) ?_, H.fr⟩
       unfold hexN; omega
      ·refine sk ?_
       refine in_n ?_
       refine then_n ?_
       refine sq ?_
       refine rg ?_
       refine asg (v := .int .i64 _) rfl rfl ?_
       refine nl ?_
       refine then_n ?_
       refine rt ?_
       refine fin_r ?_
       refine ⟨congrArg (Value.int .i64) ?_, H.fr⟩
       unfold hexN; omega
     ·refine gn rfl rfl ?_
      refine gn rfl rfl ?_
      refine pkF (v := .bool _) rfl rfl rfl ?_
      refine asg (v := .bool _) rfl rfl ?_
      refine nl ?_
      refine then_n ?_
      refine cbF rfl rfl ?_
      refine sk ?_
      refine in_n ?_
      refine then_n ?_
      refine sq ?_
      refine rg ?_
      refine asg (v := .int .i64 _) rfl rfl ?_
      refine nl ?_
      refine then_n ?_
      refine rt ?_
      refine fin_r ?_
      refine ⟨congrArg (Value.int .i64) ?_, H.fr⟩
      unfold hexN; omega
   ·refine gn rfl rfl ?_
    refine gn rfl rfl ?_
    refine pkF (v := .bool _) rfl rfl rfl ?_
    refine asg (v := .bool _) rfl rfl ?_
    refine nl ?_
    refine then_n ?_
    refine cbF rfl rfl ?_
    refine sq ?_
    refine rg ?_
    refine mv (v := .int .u8 _) rfl rfl ?_
    refine geq rfl rfl rfl ?_
    refine mv (v := .bool _) rfl rfl ?_
    refine spd (t := 27) rfl (fun hg4 => ?_) (fun hg4 => ?_)
    ·refine gy rfl ?_
     refine mv (v := .int .u8 _) rfl rfl ?_
     refine gy rfl ?_
     refine leq rfl rfl rfl ?_
     refine pkT (v := .bool _) rfl rfl rfl ?_
     refine asg (v := .bool _) rfl rfl ?_
     refine nl ?_
     refine then_n ?_
     refine cd rfl (fun hc4 => ?_) (fun hc4 => ?_)
     ·refine sq ?_
      refine rg ?_
      refine mv (v := .int .u8 _) rfl rfl ?_
      refine sub rfl rfl (by first | exact w_u8 (by omega) | exact w_u8 (rng_u8 _) | exact m_u8 _) rfl ?_
      refine cvi rfl rfl Tryz.underlying3 (by first | exact w_i64 (by omega) | exact w_i64 (rng_i64 _) | rfl) rfl ?_
      refine add rfl rfl (by first | exact w_i64 (by omega) | exact w_i64 (rng_i64 _) | rfl) rfl ?_
      refine asg (v := .int .i64 _) rfl rfl ?_
      refine nl ?_
      refine then_n ?_
      refine rt ?_
      refine in_r ?_
      refine then_r ?_
      refine fin_r ?_
      refine ⟨congrArg (Value.int .i64) ?_, H.fr⟩
      unfold hexN; omega
     ·refine sk ?_
      refine in_n ?_
      refine then_n ?_
      refine sq ?_
      refine rg ?_
      refine asg (v := .int .i64 _) rfl rfl ?_
      refine nl ?_
      refine then_n ?_
      refine rt ?_
      refine fin_r ?_
      refine ⟨congrArg (Value.int .i64) ?_, H.fr⟩
      unfold hexN; omega
    ·refine gn rfl rfl ?_
     refine gn rfl rfl ?_
     refine pkF (v := .bool _) rfl rfl rfl ?_
     refine asg (v := .bool _) rfl rfl ?_
     refine nl ?_
     refine then_n ?_
     refine cbF rfl rfl ?_
     refine sk ?_
     refine in_n ?_
     refine then_n ?_
     refine sq ?_
     refine rg ?_
     refine asg (v := .int .i64 _) rfl rfl ?_
     refine nl ?_
     refine then_n ?_
     refine rt ?_
     refine fin_r ?_
     refine ⟨congrArg (Value.int .i64) ?_, H.fr⟩
     unfold hexN; omega
 ·refine gn rfl rfl ?_
  refine gn rfl rfl ?_
  refine pkF (v := .bool _) rfl rfl rfl ?_
  refine asg (v := .bool _) rfl rfl ?_
  refine nl ?_
  refine then_n ?_
  refine cbF rfl rfl ?_
  refine sq ?_
  refine rg ?_
  refine mv (v := .int .u8 _) rfl rfl ?_
  refine geq rfl rfl rfl ?_
  refine mv (v := .bool _) rfl rfl ?_
  refine spd (t := 16) rfl (fun hg5 => ?_) (fun hg5 => ?_)
  ·refine gy rfl ?_
   refine mv (v := .int .u8 _) rfl rfl ?_
   refine gy rfl ?_
   refine leq rfl rfl rfl ?_
   refine pkT (v := .bool _) rfl rfl rfl ?_
   refine asg (v := .bool _) rfl rfl ?_
   refine nl ?_
   refine then_n ?_
   refine cd rfl (fun hc5 => ?_) (fun hc5 => ?_)
   ·refine sq ?_
    refine rg ?_
    refine mv (v := .int .u8 _) rfl rfl ?_
    refine sub rfl rfl (by first | exact w_u8 (by omega) | exact w_u8 (rng_u8 _) | exact m_u8 _) rfl ?_
    refine cvi rfl rfl Tryz.underlying3 (by first | exact w_i64 (by omega) | exact w_i64 (rng_i64 _) | rfl) rfl ?_
    refine add rfl rfl (by first | exact w_i64 (by omega) | exact w_i64 (rng_i64 _) | rfl) rfl ?_
    refine asg (v := .int .i64 _) rfl rfl ?_
    refine nl ?_
    refine then_n ?_
    refine rt ?_
    refine in_r ?_
    refine then_r ?_
    refine fin_r ?_
    refine ⟨congrArg (Value.int .i64) ?_, H.fr⟩
    unfold hexN; omega
   ·refine sq ?_
    refine rg ?_
    refine mv (v := .int .u8 _) rfl rfl ?_
    refine geq rfl rfl rfl ?_
    refine mv (v := .bool _) rfl rfl ?_
    refine spd (t := 27) rfl (fun hg6 => ?_) (fun hg6 => ?_)
    ·refine gy rfl ?_
     refine mv (v := .int .u8 _) rfl rfl ?_
     refine gy rfl ?_
     refine leq rfl rfl rfl ?_
     refine pkT (v := .bool _) rfl rfl rfl ?_
     refine asg (v := .bool _) rfl rfl ?_
     refine nl ?_
     refine then_n ?_
     refine cd rfl (fun hc6 => ?_) (fun hc6 => ?_)
     ·refine sq ?_
      refine rg ?_
      refine mv (v := .int .u8 _) rfl rfl ?_
      refine sub rfl rfl (by first | exact w_u8 (by omega) | exact w_u8 (rng_u8 _) | exact m_u8 _) rfl ?_
      refine cvi rfl rfl Tryz.underlying3 (by first | exact w_i64 (by omega) | exact w_i64 (rng_i64 _) | rfl) rfl ?_
      refine add rfl rfl (by first | exact w_i64 (by omega) | exact w_i64 (rng_i64 _) | rfl) rfl ?_
      refine asg (v := .int .i64 _) rfl rfl ?_
      refine nl ?_
      refine then_n ?_
      refine rt ?_
      refine in_r ?_
      refine then_r ?_
      refine fin_r ?_
      refine ⟨congrArg (Value.int .i64) ?_, H.fr⟩
      unfold hexN; omega
     ·refine sk ?_
      refine in_n ?_
      refine then_n ?_
      refine sq ?_
      refine rg ?_
      refine asg (v := .int .i64 _) rfl rfl ?_
      refine nl ?_
      refine then_n ?_
      refine rt ?_
      refine fin_r ?_
      refine ⟨congrArg (Value.int .i64) ?_, H.fr⟩
      unfold hexN; omega
    ·refine gn rfl rfl ?_
     refine gn rfl rfl ?_
     refine pkF (v := .bool _) rfl rfl rfl ?_
     refine asg (v := .bool _) rfl rfl ?_
     refine nl ?_
     refine then_n ?_
     refine cbF rfl rfl ?_
     refine sk ?_
     refine in_n ?_
     refine then_n ?_
     refine sq ?_
     refine rg ?_
     refine asg (v := .int .i64 _) rfl rfl ?_
     refine nl ?_
     refine then_n ?_
     refine rt ?_
     refine fin_r ?_
     refine ⟨congrArg (Value.int .i64) ?_, H.fr⟩
     unfold hexN; omega
  ·refine gn rfl rfl ?_
   refine gn rfl rfl ?_
   refine pkF (v := .bool _) rfl rfl rfl ?_
   refine asg (v := .bool _) rfl rfl ?_
   refine nl ?_
   refine then_n ?_
   refine cbF rfl rfl ?_
   refine sq ?_
   refine rg ?_
   refine mv (v := .int .u8 _) rfl rfl ?_
   refine geq rfl rfl rfl ?_
   refine mv (v := .bool _) rfl rfl ?_
   refine spd (t := 27) rfl (fun hg7 => ?_) (fun hg7 => ?_)
   ·refine gy rfl ?_
    refine mv (v := .int .u8 _) rfl rfl ?_
    refine gy rfl ?_
    refine leq rfl rfl rfl ?_
    refine pkT (v := .bool _) rfl rfl rfl ?_
    refine asg (v := .bool _) rfl rfl ?_
    refine nl ?_
    refine then_n ?_
    refine cd rfl (fun hc7 => ?_) (fun hc7 => ?_)
    ·refine sq ?_
     refine rg ?_
     refine mv (v := .int .u8 _) rfl rfl ?_
     refine sub rfl rfl (by first | exact w_u8 (by omega) | exact w_u8 (rng_u8 _) | exact m_u8 _) rfl ?_
     refine cvi rfl rfl Tryz.underlying3 (by first | exact w_i64 (by omega) | exact w_i64 (rng_i64 _) | rfl) rfl ?_
     refine add rfl rfl (by first | exact w_i64 (by omega) | exact w_i64 (rng_i64 _) | rfl) rfl ?_
     refine asg (v := .int .i64 _) rfl rfl ?_
     refine nl ?_
     refine then_n ?_
     refine rt ?_
     refine in_r ?_
     refine then_r ?_
     refine fin_r ?_
     refine ⟨congrArg (Value.int .i64) ?_, H.fr⟩
     unfold hexN; omega
    ·refine sk ?_
     refine in_n ?_
     refine then_n ?_
     refine sq ?_
     refine rg ?_
     refine asg (v := .int .i64 _) rfl rfl ?_
     refine nl ?_
     refine then_n ?_
     refine rt ?_
     refine fin_r ?_
     refine ⟨congrArg (Value.int .i64) ?_, H.fr⟩
     unfold hexN; omega
   ·refine gn rfl rfl ?_
    refine gn rfl rfl ?_
    refine pkF (v := .bool _) rfl rfl rfl ?_
    refine asg (v := .bool _) rfl rfl ?_
    refine nl ?_
    refine then_n ?_
    refine cbF rfl rfl ?_
    refine sk ?_
    refine in_n ?_
    refine then_n ?_
    refine sq ?_
    refine rg ?_
    refine asg (v := .int .i64 _) rfl rfl ?_
    refine nl ?_
    refine then_n ?_
    refine rt ?_
    refine fin_r ?_
    refine ⟨congrArg (Value.int .i64) ?_, H.fr⟩
    unfold hexN; omega

set_option maxRecDepth 100000 in
set_option maxHeartbeats 2000000 in
theorem c_parse (w : World) (s : List UInt8) (hs : gOk s = true) : Calls Tryz.prog 72 #[.string (str s)] w (Ret fun v w' => v = .tuple #[.agg (Bs (parB s)).toArray, .nilIface] ∧ Fr [] w w') := by
 refine enterR [.cell 2 138, .tmp 3] Tryz.func72 rfl rfl rfl rfl ?_
 have H := SH.nil w
 have hsl := (gOk_at hs).1
 have hsz := size_str s
 have d8 : ((s.getD (Int.toNat 8) 0).toNat : Int) = 45 := dash_at hs (j := 8) (by decide) rfl
 have d13 : ((s.getD (Int.toNat 13) 0).toNat : Int) = 45 := dash_at hs (j := 13) (by decide) rfl
 have d18 : ((s.getD (Int.toNat 18) 0).toNat : Int) = 45 := dash_at hs (j := 18) (by decide) rfl
 have d23 : ((s.getD (Int.toNat 23) 0).toNat : Int) = 45 := dash_at hs (j := 23) (by decide) rfl
 refine sq ?_
 refine rg ?_
 refine al H ze138 rfl ?_
 clear H; intro b1 w1 hb1 H _
 refine asg (v := .nilIface) rfl rfl ?_
 refine nl ?_
 refine then_n ?_
 refine sq ?_
 refine sq ?_
 refine rg ?_
 refine mv (v := .string _) rfl rfl ?_
 refine lnT rfl Tryz.underlying9 rfl ?_
 refine nl ?_
 refine then_n ?_
 refine bk ?_
 refine sq ?_
 refine rg ?_
 refine eql rfl rfl rfl ?_
 refine asg (v := .bool _) rfl rfl ?_
 refine nl ?_
 refine then_n ?_
 refine cT rfl (by omega) ?_
 refine sk ?_
 refine in_n ?_
 refine then_n ?_
 refine sq ?_
 refine sq ?_
 refine rg ?_
 refine mv (v := .string _) rfl rfl ?_
 refine ixS rfl rfl Tryz.underlying9 (by first | omega | (constructor <;> simp <;> omega)) rfl ?_; intro hu1
 refine neq rfl rfl rfl ?_
 refine mv (v := .bool _) rfl rfl ?_
 refine spF (t := 82) rfl (by omega) ?_
 refine gy rfl ?_
 refine mv (v := .string _) rfl rfl ?_
 refine gy rfl ?_
 refine ixS rfl rfl Tryz.underlying9 (by first | omega | (constructor <;> simp <;> omega)) rfl ?_; intro hu2
 refine gy rfl ?_
 refine neq rfl rfl rfl ?_
 refine pkF (v := .bool _) rfl rfl rfl ?_
 refine mv (v := .bool _) rfl rfl ?_
 refine spF (t := 87) rfl (by omega) ?_
 refine gy rfl ?_
 refine mv (v := .string _) rfl rfl ?_
 refine gy rfl ?_
 refine ixS rfl rfl Tryz.underlying9 (by first | omega | (constructor <;> simp <;> omega)) rfl ?_; intro hu3
 refine gy rfl ?_
 refine neq rfl rfl rfl ?_
 refine pkF (v := .bool _) rfl rfl rfl ?_
 refine mv (v := .bool _) rfl rfl ?_
 refine spF (t := 92) rfl (by omega) ?_
 refine gy rfl ?_
 refine mv (v := .string _) rfl rfl ?_
 refine gy rfl ?_
 refine ixS rfl rfl Tryz.underlying9 (by first | omega | (constructor <;> simp <;> omega)) rfl ?_; intro hu4
 refine gy rfl ?_
 refine neq rfl rfl rfl ?_
 refine pkF (v := .bool _) rfl rfl rfl ?_
 refine nl ?_
 refine then_n ?_
 refine cF rfl (by omega) ?_
 refine sk ?_
 refine then_n ?_
 refine sq ?_
 refine sq ?_
 refine rg ?_
 refine bu (out := ?o5) ze87 bo87 ?f5 rfl ?_
 case f5 =>
  refine FL.one (v := .int .i64 _) rfl pl87_0 rfl (by first | decide | simp) ?_
  refine FL.one (v := .int .i64 _) rfl pl87_1 rfl (by first | decide | simp) ?_
  refine FL.one (v := .int .i64 _) rfl pl87_2 rfl (by first | decide | simp) ?_
  refine FL.one (v := .int .i64 _) rfl pl87_3 rfl (by first | decide | simp) ?_
  refine FL.one (v := .int .i64 _) rfl pl87_4 rfl (by first | decide | simp) ?_
  refine FL.one (v := .int .i64 _) rfl pl87_5 rfl (by first | decide | simp) ?_
  refine FL.one (v := .int .i64 _) rfl pl87_6 rfl (by first | decide | simp) ?_
  refine FL.one (v := .int .i64 _) rfl pl87_7 rfl (by first | decide | simp) ?_
  refine FL.one (v := .int .i64 _) rfl pl87_8 rfl (by first | decide | simp) ?_
  refine FL.one (v := .int .i64 _) rfl pl87_9 rfl (by first | decide | simp) ?_
  refine FL.one (v := .int .i64 _) rfl pl87_10 rfl (by first | decide | simp) ?_
  refine FL.one (v := .int .i64 _) rfl pl87_11 rfl (by first | decide | simp) ?_
  refine FL.one (v := .int .i64 _) rfl pl87_12 rfl (by first | decide | simp) ?_
  refine FL.one (v := .int .i64 _) rfl pl87_13 rfl (by first | decide | simp) ?_
  refine FL.one (v := .int .i64 _) rfl pl87_14 rfl (by first | decide | simp) ?_
  refine FL.one (v := .int .i64 _) rfl pl87_15 rfl (by first | decide | simp) ?_
  exact FL.nil
 refine mv (v := .int .i64 _) rfl rfl ?_
 refine nl ?_
 refine then_n ?_
 refine bk ?_
 refine lpM (α := Nat) [3, 7, 8, 9, 10, 100, 101, 102, 103, 104, 105, 106, 107, 108, 109, 110, 111, 112, 113, 114, 115, 116, 117, 118, 119, 120, 121, 122, 123, 124, 125, 126, 127, 128] (fun i => [(100, .int .i64 (i : Int))]) (fun i w' => i ≤ 16 ∧ SH w [] w' [⟨b1, .cells (Bs (parP s i)).toArray 138 (0, 0), true⟩]) (fun i => 16 - i) 0 ?_ (fC (by first | rfl | exact congrArg (Value.int _) (by first | omega | assumption | (symm; assumption) | (simp; done) | (simp; omega)) | exact congrArg (fun n => Value.slice _ n _) (by first | omega | (simp; done) | (simp; omega))) (fN _)) ?_
 ·exact ⟨by omega, sh_cells0 H rfl⟩
 ·rintro i ρx w2 ⟨hi, H⟩
  refine sq ?_
  refine rg ?_
  refine lss rfl rfl rfl ?_
  refine nl ?_
  refine then_n ?_
  refine sq ?_
  refine cd rfl (fun hc3 => ?_) (fun hc3 => ?_)
  ·obtain ⟨k1, k2, k3⟩ := tpos_lt ⟨i, by omega⟩
   simp only at k1 k2 k3
   have n1 := nib_rng hs (j := tPos.getD i 0) (by omega) k2
   have n2 := nib_rng hs (j := tPos.getD i 0 + 1) (by omega) k3
   have hpl := parP_len s (i := i) (by omega)
   refine sk ?_
   refine then_n ?_
   refine sq ?_
   refine bk ?_
   refine sq ?_
   refine rg ?_
   refine mv (v := .int .i64 _) rfl rfl ?_
   refine ixV (cs := (tPos.map fun (k : Nat) => Value.int .i64 (k : Int))) (v := .int .i64 ((tPos.getD i 0 : Nat) : Int)) rfl rfl Tryz.underlying87 sc3 sz3_1 (by omega) (tpos_get (by omega)) rfl ?_
   refine asg (v := .int .i64 _) rfl rfl ?_
   refine asg (v := .int .i64 _) rfl rfl ?_
   refine nl ?_
   refine then_n ?_
   refine sq ?_
   refine dr (by kernel_rfl) ?_
   have H := H.drew
   refine hold (fun _ => True) [] ?_
   refine tk (i := 0) rfl (by kernel_rfl) rfl trivial (fun _ _ => r_mv (v := .string _) rfl) ?_
   refine tk (i := 1) rfl (by kernel_rfl) rfl trivial (fun _ _ => r_mv (v := .int .i64 _) rfl) ?_
   refine tk (i := 2) rfl (by kernel_rfl) rfl trivial (fun _ _ => r_ixS rfl rfl Tryz.underlying9 (by first | omega | (constructor <;> simp <;> omega))) ?_
   refine tk (i := 4) rfl (by kernel_rfl) rfl trivial (fun _ _ => r_mv (v := .string _) rfl) ?_
   refine tk (i := 5) rfl (by kernel_rfl) rfl trivial (fun _ _ => r_mv (v := .int .i64 _) rfl) ?_
   refine tk (i := 6) rfl (by kernel_rfl) rfl trivial (fun _ _ => r_add (c := ((tPos.getD i 0 + 1 : Nat) : Int)) rfl rfl (by rw [w_i64 (by omega)]; omega)) ?_
   refine tk (i := 7) rfl (by kernel_rfl) rfl trivial (fun _ _ => r_ixS rfl rfl Tryz.underlying9 (by first | omega | (constructor <;> simp <;> omega))) ?_
   refine unfree ?_
   refine fo (i := 3) (by kernel_rfl) rfl rfl ?_
   refine cl ca84 (c_digit _ (s.getD (tPos.getD i 0) 0)) rfl ?_
   rintro _ w3 ⟨hv1, F⟩
   obtain rfl : _ = Value.int .i64 (nib s (tPos.getD i 0)) := hv1
   replace H := H.keep F; clear F
   refine nl ?_
   refine then_n ?_
   refine fo (i := 8) (by kernel_rfl) rfl rfl ?_
   refine cl ca84 (c_digit _ (s.getD (tPos.getD i 0 + 1) 0)) rfl ?_
   rintro _ w4 ⟨hv1, F⟩
   obtain rfl : _ = Value.int .i64 (nib s (tPos.getD i 0 + 1)) := hv1
   replace H := H.keep F; clear F
   refine nl ?_
   refine then_n ?_
   refine holdH H [] ?_
   refine tk (i := 9) rfl (by kernel_rfl) rfl H (fun w' H => r_asg (v := .int .i64 _) rfl) ?_
   refine tk (i := 10) rfl (by kernel_rfl) rfl H (fun w' H => r_asg (v := .int .i64 _) rfl) ?_
   refine da (by kernel_rfl) ?_
   refine then_n ?_
   refine sq ?_
   refine sq ?_
   refine rg ?_
   refine mv (v := .int .i64 _) rfl rfl ?_
   refine lss rfl rfl rfl ?_
   refine mv (v := .bool _) rfl rfl ?_
   refine spF (t := 115) rfl (by omega) ?_
   refine gy rfl ?_
   refine mv (v := .int .i64 _) rfl rfl ?_
   refine gy rfl ?_
   refine lss rfl rfl rfl ?_
   refine pkF (v := .bool _) rfl rfl rfl ?_
   refine nl ?_
   refine then_n ?_
   refine cF rfl (by omega) ?_
   refine sk ?_
   refine then_n ?_
   refine rg ?_
   refine mv (v := .int .i64 _) rfl rfl ?_
   refine mv (v := .int .i64 _) rfl rfl ?_
   refine shlK (s := 4) (p := 16) rfl rfl (by decide) (by decide) (by first | exact w_i64 (by omega) | exact w_i64 (rng_i64 _) | rfl) rfl ?_
   refine mv (v := .int .i64 _) rfl rfl ?_
   refine bor (c := nib s (tPos.getD i 0) * 16 + nib s (tPos.getD i 0 + 1)) rfl rfl (or_i64 n1 n2) rfl ?_
   refine cvi rfl rfl Tryz.underlying5 (by first | exact w_u8 (by omega) | exact w_u8 (rng_u8 _) | exact m_u8 _) rfl ?_
   refine iyN (i) rfl rfl Tryz.underlying138 sz5_1 (by omega) (by omega) rfl ?_
   refine stb H rfl rfl sc5 (by omega) (by first | decide | (simp only [List.length_set, List.length_cons, List.length_nil, List.length_replicate, List.length_append, Bs_length]; omega) | omega) (by omega) ?_
   clear H; intro w5 H _
   refine nl ?_
   refine in_n ?_
   refine then_n ?_
   refine rg ?_
   refine add rfl rfl (by first | exact w_i64 (by omega) | exact w_i64 (rng_i64 _) | rfl) rfl ?_
   refine mv (v := .int .i64 _) rfl rfl ?_
   refine nl ?_
   refine loop_n ?_
   exact ⟨i + 1, (by (try dsimp only); omega), ⟨by omega, sh_cells0 H (congrArg Bs (parP_step s (by omega)))⟩, (fC (by first | rfl | exact congrArg (Value.int _) (by first | omega | assumption | (symm; assumption) | (simp; done) | (simp; omega)) | exact congrArg (fun n => Value.slice _ n _) (by first | omega | (simp; done) | (simp; omega))) (fN _)), (by repeat (first | exact Agree.setL rfl Agree.mask | exact Agree.self _ _ | refine Agree.upd rfl ?_ | refine Agree.setL rfl ?_ | refine Agree.mask2 rfl ?_))⟩
  ·obtain rfl : i = 16 := by omega
   rw [parP_end] at H
   refine ex ?_
   refine then_e ?_
   refine loop_e ?_
   refine in_hit rfl ?_
   refine then_n ?_
   refine sq ?_
   refine rg ?_
   refine la (vs := Bs (parB s)) H rfl ag138_16 rfl rfl rfl ?_
   refine sa (cs' := Bs (parB s)) H rfl rfl ag138_16 rfl (List.all_eq_true.2 Bs_one) (by show 0 + 16 ≤ 16; decide) (by omega) (List.append_nil _) ?_
   clear H; intro w93 H _
   refine asg (v := .nilIface) rfl rfl ?_
   refine nl ?_
   refine then_n ?_
   refine rt ?_
   refine finR_r ?_
   exact ⟨[_, _], ⟨finC rfl (H.look (b := b1)) ag138_16, rfl, trivial⟩, rfl, H.fr⟩

end Go.Proofs.YthcaejaaalkglaaGreatDoor.X

/- Walks of functions, printed by a program of this claim. -/
namespace Go.Proofs.YthcaejaaalkglaaGreatDoor.X
set_option linter.unusedVariables false
set_option linter.unusedSimpArgs false
open Go Go.RowKit

namespace PF
theorem ca72 : callable Tryz.prog 72 = true := by kernel_rfl
end PF
open PF

set_option maxRecDepth 100000 in
set_option maxHeartbeats 2000000 in
theorem c_initEntry (w : World) (b n : Nat) (p : GP) (y1 y2 : Value) (hp : w.heap[b]? = some (.cells (p.cells ++ [y1, y2]).toArray 126 (0, 0))) (hg : p.good n) (hn : n ≤ 1000000) : Calls Tryz.prog 76 #[.pointer (some ⟨b, 0, none⟩), .int .u64 512] w (Ret fun v w' => v = .nilIface ∧ Fr [b] w w' ∧ w'.heap[b]? = some (.cells ((upG p).cells ++ [y1, y2]).toArray 126 (0, 0))) := by
 refine enter (fun ρ => ρ 4) Tryz.func76 rfl rfl rfl (res1 rfl) ?_
 have H := SH.rw1 hp
 have e1 := hg.st
 have e2 := hg.en
 have e3 := hg.la
 have e4 := hg.sz
 refine sq ?_
 refine rg ?_
 refine asg (v := .nilIface) rfl rfl ?_
 refine nl ?_
 refine then_n ?_
 refine sq ?_
 refine rg ?_
 refine mv (v := .pointer _) rfl rfl ?_
 refine asg (v := .pointer _) rfl rfl ?_
 refine nl ?_
 refine then_n ?_
 refine sq ?_
 refine sq ?_
 refine rg ?_
 refine mv (v := .pointer _) rfl rfl ?_
 refine nc rfl rfl ?_
 refine fa rfl fo126_4 rfl ?_
 refine ld H rfl sc124 rfl rfl ?_
 refine eqlT rfl rfl rfl ?_
 refine nl ?_
 refine then_n ?_
 refine cF rfl (ty_ne hg.ty hg.tz) ?_
 refine sk ?_
 refine then_n ?_
 refine sq ?_
 refine rg ?_
 refine al H ze138 rfl ?_
 clear H; intro b1 w1 hb1 H _
 refine nl ?_
 refine then_n ?_
 refine sq ?_
 refine sq ?_
 refine rg ?_
 refine mv (v := .pointer _) rfl rfl ?_
 refine nc rfl rfl ?_
 refine fa rfl fo126_6 rfl ?_
 refine ld H rfl sc9 rfl rfl ?_
 refine eqlT rfl rfl rfl ?_
 refine nl ?_
 refine then_n ?_
 refine cF rfl (gu_ne hg.gu) ?_
 refine sq ?_
 refine rg ?_
 refine asg (v := .nilIface) rfl rfl ?_
 refine nl ?_
 refine then_n ?_
 refine sq ?_
 refine rg ?_
 refine mv (v := .pointer _) rfl rfl ?_
 refine nc rfl rfl ?_
 refine fa rfl fo126_6 rfl ?_
 refine ld H rfl sc9 rfl rfl ?_
 refine cl ca72 (c_parse _ p.gu hg.gu) rfl ?_
 rintro _ w2 ⟨rfl, F⟩
 replace H := H.keep F; clear F
 refine mv (v := .tuple _) rfl rfl ?_
 refine xt rfl rfl rfl ?_
 refine xt rfl rfl rfl ?_
 refine sa (cs' := Bs (parB p.gu)) H rfl rfl ag138_16 rfl (List.all_eq_true.2 Bs_one) (by show 0 + 16 ≤ 16; decide) (by omega) (List.append_nil _) ?_
 clear H; intro w91 H _
 refine asg (v := .nilIface) rfl rfl ?_
 refine nl ?_
 refine then_n ?_
 refine sq ?_
 refine rg ?_
 refine mv (v := .nilIface) rfl rfl ?_
 refine neqI0 rfl Tryz.underlying73 rfl ?_
 refine nl ?_
 refine then_n ?_
 refine cbF rfl rfl ?_
 refine sk ?_
 refine then_n ?_
 refine sq ?_
 refine rg ?_
 refine mv (v := .pointer _) rfl rfl ?_
 refine la (vs := Bs (parB p.gu)) H rfl ag138_16 rfl rfl rfl ?_
 refine cl ca66 (c_uuString _ (parB p.gu) rfl) rfl ?_
 rintro _ w3 ⟨rfl, F⟩
 replace H := H.keep F; clear F
 refine cl ca86 (c_upper _ (sT (parB p.gu)) (by have := sTp_len (parB p.gu) 16; unfold sT; omega)) rfl ?_
 rintro _ w4 ⟨rfl, F⟩
 replace H := H.keep F; clear F
 rw [spelt hg.gu]
 refine nc rfl rfl ?_
 refine fa rfl fo126_6 rfl ?_
 refine st (v := .string _) H rfl rfl sc9 rfl (by show 0 + 6 < 10; decide) (by omega) ?_
 clear H; intro w92 H _
 refine nl ?_
 refine then_n ?_
 refine sq ?_
 refine dr (by kernel_rfl) ?_
 have H := H.drew
 refine hold (fun _ => True) [] ?_
 refine tk (i := 0) rfl (by kernel_rfl) rfl trivial (fun _ _ => r_mv (v := .pointer _) rfl) ?_
 refine tk (i := 1) rfl (by kernel_rfl) rfl trivial (fun _ _ => r_nc rfl) ?_
 refine tk (i := 2) rfl (by kernel_rfl) rfl trivial (fun _ _ => r_fa rfl fo126_3) ?_
 refine tk (i := 4) rfl (by kernel_rfl) rfl trivial (fun _ _ => r_mv (v := .pointer _) rfl) ?_
 refine tk (i := 5) rfl (by kernel_rfl) rfl trivial (fun _ _ => r_nc rfl) ?_
 refine tk (i := 6) rfl (by kernel_rfl) rfl trivial (fun _ _ => r_fa rfl fo126_1) ?_
 refine tk (i := 8) rfl (by kernel_rfl) rfl trivial (fun _ _ => r_mv (v := .pointer _) rfl) ?_
 refine tk (i := 9) rfl (by kernel_rfl) rfl trivial (fun _ _ => r_nc rfl) ?_
 refine tk (i := 10) rfl (by kernel_rfl) rfl trivial (fun _ _ => r_fa rfl fo126_2) ?_
 refine unfree ?_
 refine holdH H [] ?_
 refine tk (i := 3) rfl (by kernel_rfl) rfl H (fun w' H => r_ld H rfl sc28 rfl) ?_
 refine tk (i := 7) rfl (by kernel_rfl) rfl H (fun w' H => r_ld H rfl sc28 rfl) ?_
 refine tk (i := 11) rfl (by kernel_rfl) rfl H (fun w' H => r_ld H rfl sc28 rfl) ?_
 refine tk (i := 12) rfl (by kernel_rfl) rfl H (fun w' H => r_asg (v := .int .u64 _) rfl) ?_
 refine tk (i := 13) rfl (by kernel_rfl) rfl H (fun w' H => r_asg (v := .int .u64 _) rfl) ?_
 refine tk (i := 14) rfl (by kernel_rfl) rfl H (fun w' H => r_asg (v := .int .u64 _) rfl) ?_
 refine da (by kernel_rfl) ?_
 refine then_n ?_
 refine sq ?_
 refine rg ?_
 refine mv (v := .int .u64 _) rfl rfl ?_
 refine mv (v := .int .u64 _) rfl rfl ?_
 refine sub rfl rfl (by first | exact w_u64 (by omega) | exact w_u64 (rng_u64 _) | exact m_u64 _) rfl ?_
 refine add rfl rfl (by first | exact w_u64 (by omega) | exact w_u64 (rng_u64 _) | exact m_u64 _) rfl ?_
 refine mv (v := .int .u64 _) rfl rfl ?_
 refine mul rfl rfl (by first | exact w_u64 (by omega) | exact w_u64 (rng_u64 _) | exact m_u64 _) rfl ?_
 refine asg (v := .int .u64 _) rfl rfl ?_
 refine nl ?_
 refine then_n ?_
 refine sq ?_
 refine bk ?_
 refine sq ?_
 refine rg ?_
 refine mv (v := .int .u64 _) rfl rfl ?_
 refine eql rfl rfl rfl ?_
 refine asg (v := .bool _) rfl rfl ?_
 refine nl ?_
 refine then_n ?_
 refine cF rfl (by omega) ?_
 refine sq ?_
 refine rg ?_
 refine mv (v := .int .u64 _) rfl rfl ?_
 refine mv (v := .int .u64 _) rfl rfl ?_
 refine geq rfl rfl rfl ?_
 refine mv (v := .bool _) rfl rfl ?_
 refine spT (t := 71) rfl (by omega) ?_
 refine gy rfl ?_
 refine mv (v := .int .u64 _) rfl rfl ?_
 refine gy rfl ?_
 refine mv (v := .int .u64 _) rfl rfl ?_
 refine gy rfl ?_
 refine eql rfl rfl rfl ?_
 refine pkT (v := .bool _) rfl rfl rfl ?_
 refine asg (v := .bool _) rfl rfl ?_
 refine nl ?_
 refine then_n ?_
 refine cT rfl (by omega) ?_
 refine sk ?_
 refine in_n ?_
 refine then_n ?_
 refine sq ?_
 refine rg ?_
 refine asg (v := .nilIface) rfl rfl ?_
 refine nl ?_
 refine then_n ?_
 refine rt ?_
 refine fin_r ?_
 exact ⟨rfl, H.fr, H.look (b := b)⟩

end Go.Proofs.YthcaejaaalkglaaGreatDoor.X

/- Numbers put into bytes; units of runes. -/
namespace Go.Proofs.YthcaejaaalkglaaGreatDoor.X
set_option linter.unusedVariables false
set_option linter.unusedSimpArgs false
open Go Go.RowKit
theorem put2 (cur : List UInt8) (o : Nat) (x : Int) (h : 0 ≤ x ∧ x ≤ 65535) : setsL cur o (leB 2 x) = (cur.set (o + (0 : Int).toNat * 1) (b8 (x % 256))).set (o + (1 : Int).toNat * 1) (b8 (x / 256)) := by
  rw [show x / 256 = x / 256 % 256 by omega]
  rfl
theorem put8 (cur : List UInt8) (o : Nat) (x : Int) (h : 0 ≤ x ∧ x ≤ 18446744073709551615) : setsL cur o (leB 8 x) = (((((((cur.set (o + (0 : Int).toNat * 1) (b8 (x % 256))).set (o + (1 : Int).toNat * 1) (b8 (x / 256 % 256))).set (o + (2 : Int).toNat * 1) (b8 (x / 65536 % 256))).set (o + (3 : Int).toNat * 1) (b8 (x / 16777216 % 256))).set (o + (4 : Int).toNat * 1) (b8 (x / 4294967296 % 256))).set (o + (5 : Int).toNat * 1) (b8 (x / 1099511627776 % 256))).set (o + (6 : Int).toNat * 1) (b8 (x / 281474976710656 % 256))).set (o + (7 : Int).toNat * 1) (b8 (x / 72057594037927936)) := by
  rw [show x / 65536 = x / 256 / 256 by omega, show x / 16777216 = x / 256 / 256 / 256 by omega, show x / 4294967296 = x / 256 / 256 / 256 / 256 by omega, show x / 1099511627776 = x / 256 / 256 / 256 / 256 / 256 by omega, show x / 281474976710656 = x / 256 / 256 / 256 / 256 / 256 / 256 by omega, show x / 72057594037927936 = x / 256 / 256 / 256 / 256 / 256 / 256 / 256 % 256 by omega]
  rfl
/-- A row of runes. -/
def R32 (w : World) (A : Option Addr) (n : Nat) (cs : List Nat) : Prop := cs.length = n ∧ ∀ (i : Nat) (c : Nat), cs[i]? = some c → ∃ ad, A = some ad ∧ w.cell? (ad.add i) = some (.int .i32 (c : Int))
theorem R32.keep {w w' : World} {A : Option Addr} {n : Nat} {cs : List Nat} (h : R32 w A n cs) (f : Fr [] w w') : R32 w' A n cs :=
  ⟨h.1, fun i c hc => by obtain ⟨ad, e, h2⟩ := h.2 i c hc; exact ⟨ad, e, f.cell h2 (by simp)⟩⟩
theorem OR.r32 {e : TypeId} {w0 : World} {S : List Nat} {w : World} {L : List Ent} {A : Option Addr} {n cap : Nat} {cs : List Nat} (O : OR e 1 w0 S w L A n cap (cs.map fun (c : Nat) => Value.int .i32 (c : Int))) : R32 w A n cs := by
  have hl : cs.length = n := by have := O.len; simpa using this
  refine ⟨hl, fun i c hc => ?_⟩
  have hi := (List.getElem?_eq_some_iff.1 hc).1
  obtain ⟨ad, rfl⟩ := O.some_of (by omega)
  exact ⟨ad, rfl, O.one (by rw [List.getElem?_map, hc]; rfl)⟩
/-- Units, and zeros behind them. -/
def UZ (us : List Int) (n : Nat) : List Value := (us ++ List.replicate (n - us.length) 0).map (Value.int .u16)
theorem UZ_set {us : List Int} {n : Nat} {v : Int} {k : Nat} (hk : k = us.length) (h : us.length < n) : (UZ us n).set k (.int .u16 v) = UZ (us ++ [v]) n := by
  subst hk
  unfold UZ
  rw [← List.map_set, List.set_append_right _ _ (Nat.le_refl _), Nat.sub_self, show n - us.length = (n - (us ++ [v]).length) + 1 by simp; omega, List.replicate_succ, List.set_cons_zero, List.append_assoc]
  rfl
theorem UZ_len {us : List Int} {n : Nat} (h : us.length ≤ n) : (UZ us n).length = n := by
  unfold UZ; rw [List.length_map, List.length_append, List.length_replicate]; omega
theorem UZ_zero (n : Nat) : UZ [] n = List.replicate n (.int .u16 0) := by unfold UZ; simp
theorem UZ_full {us : List Int} {n : Nat} (h : us.length = n) : UZ us n = us.map (Value.int .u16) := by unfold UZ; simp [h]
theorem flat_take {cs : List Nat} {i : Nat} {c : Nat} (h : cs[i]? = some c) : (cs.take (i + 1)).flatMap u16 = (cs.take i).flatMap u16 ++ u16 c := by
  rw [take_succ_get h, List.flatMap_append]; simp
theorem flat_le {cs : List Nat} {i : Nat} {c : Nat} (h : cs[i]? = some c) : ((cs.take i).flatMap u16).length + (u16 c).length ≤ (cs.flatMap u16).length := by
  have e : cs.flatMap u16 = (cs.take (i + 1)).flatMap u16 ++ (cs.drop (i + 1)).flatMap u16 := by rw [← List.flatMap_append, List.take_append_drop]
  rw [e, flat_take h, List.length_append, List.length_append]; omega
theorem u16_big {c : Nat} (h : 65536 ≤ c) : u16 c = [55296 + ((c : Int) - 65536) / 1024, 56320 + ((c : Int) - 65536) % 1024] := by
  unfold u16; rw [if_pos h]
  congr 1
  · omega
  · congr 1; omega
theorem u16_small {c : Nat} (h : ¬ 65536 ≤ c) : u16 c = [(c : Int)] := by unfold u16; rw [if_neg h]
theorem runes_len : ∀ (n : Nat) (s : List UInt8), s.length ≤ n → (runes s).length ≤ (utf16 s).length ∧ (runes s).length ≤ s.length
  | 0, s, h => by
    have : s = [] := List.eq_nil_of_length_eq_zero (by omega)
    subst this; simp [runes_nil]
  | n + 1, s, h => by
    by_cases he : s = []
    · subst he; simp [runes_nil]
    · have h1 := rune1_ok he
      have ih := runes_len n (s.drop (rune1 s).2) (by rw [List.length_drop]; have := h1.1; omega)
      have hu : utf16 s = u16 (rune1 s).1 ++ utf16 (s.drop (rune1 s).2) := by
        unfold utf16; rw [runes_cons he, List.flatMap_cons]
      have hl : 1 ≤ (u16 (rune1 s).1).length := by unfold u16; split <;> simp
      rw [runes_cons he, hu, List.length_append, List.length_cons]
      rw [List.length_drop] at ih
      have := h1.1; have := h1.2.1
      omega
theorem pad_at {p : GP} (h : p.fits) : pAt (List.replicate 128 0) 0 (entH p ++ (utf16 p.nm).flatMap (leB 2)) = padE p := by
  have hl := entB_le h
  have e : entH p ++ (utf16 p.nm).flatMap (leB 2) = entB p := rfl
  rw [e]
  unfold pAt padE
  rw [List.take_zero, List.nil_append, Nat.zero_add, List.drop_replicate]
theorem rune_next {bs : List UInt8} {us : List Nat} {pos : Nat} (h : runes bs = us ++ runes (bs.drop pos)) (hlt : pos < bs.length) : runes bs = (us ++ [(rune1 (bs.drop pos)).1]) ++ runes (bs.drop (pos + (rune1 (bs.drop pos)).2)) := by
  rw [h, runes_at hlt, List.append_assoc]; rfl
end Go.Proofs.YthcaejaaalkglaaGreatDoor.X

