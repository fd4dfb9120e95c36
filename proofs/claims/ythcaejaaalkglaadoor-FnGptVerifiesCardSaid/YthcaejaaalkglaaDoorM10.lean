/- Laws and walks on the road to the statement: P31, P32, GptStand, P33. -/
import Derived.Test.YthcaejaaalkglaaDoorM9
/- Walks of functions, printed by a program of this claim. -/
namespace Go.Proofs.YthcaejaaalkglaaDoor.X
set_option linter.unusedVariables false
set_option linter.unusedSimpArgs false
open Go Go.RowKit

namespace P31
theorem ag45_16 : aggB Tryd.prog 45 16 = true := by kernel_rfl
theorem ag49_8 : aggB Tryd.prog 49 8 = true := by kernel_rfl
theorem ca20 : callable Tryd.prog 20 = true := by kernel_rfl
theorem ca21 : callable Tryd.prog 21 = true := by kernel_rfl
theorem ca22 : callable Tryd.prog 22 = true := by kernel_rfl
theorem ca23 : callable Tryd.prog 23 = true := by kernel_rfl
theorem ca24 : callable Tryd.prog 24 = true := by kernel_rfl
theorem fo24_0 : fieldOff Tryd.prog 24 0 = some 0 := by kernel_rfl
theorem fo24_1 : fieldOff Tryd.prog 24 1 = some 1 := by kernel_rfl
theorem fo24_2 : fieldOff Tryd.prog 24 2 = some 2 := by kernel_rfl
theorem fo49_0 : fieldOff Tryd.prog 49 0 = some 0 := by kernel_rfl
theorem fo49_1 : fieldOff Tryd.prog 49 1 = some 1 := by kernel_rfl
theorem fo49_2 : fieldOff Tryd.prog 49 2 = some 2 := by kernel_rfl
theorem fo49_3 : fieldOff Tryd.prog 49 3 = some 3 := by kernel_rfl
theorem fo49_4 : fieldOff Tryd.prog 49 4 = some 4 := by kernel_rfl
theorem fo49_5 : fieldOff Tryd.prog 49 5 = some 5 := by kernel_rfl
theorem fo49_6 : fieldOff Tryd.prog 49 6 = some 6 := by kernel_rfl
theorem sc22 : scalarB Tryd.prog 22 = true := by kernel_rfl
theorem sc28 : scalarB Tryd.prog 28 = true := by kernel_rfl
theorem sc3 : scalarB Tryd.prog 3 = true := by kernel_rfl
theorem sc9 : scalarB Tryd.prog 9 = true := by kernel_rfl
theorem sz49_8 : sizeB Tryd.prog 49 8 = true := by kernel_rfl
theorem ze45 : zeroL Tryd.prog 45 = some [.int .u8 0, .int .u8 0, .int .u8 0, .int .u8 0, .int .u8 0, .int .u8 0, .int .u8 0, .int .u8 0, .int .u8 0, .int .u8 0, .int .u8 0, .int .u8 0, .int .u8 0, .int .u8 0, .int .u8 0, .int .u8 0] := by kernel_rfl
theorem ze49 : zeroL Tryd.prog 49 = some [.int .i64 0, .int .u64 0, .int .u64 0, .int .u64 0, .string ⟨#[]⟩, .string ⟨#[]⟩, .string ⟨#[]⟩, .int .u64 0] := by kernel_rfl

end P31
open P31

set_option maxRecDepth 100000 in
set_option maxHeartbeats 4000000 in
theorem c_good (w : World) (D : Option Addr) (m c : Nat) (g : List UInt8) (pr rc : Bool) (ps : List GP) (hq : RG w D m c ps) (hU : Utf8W w) (n : Nat) (hn : 80 ≤ n ∧ n ≤ 1000000) (hft : ∀ p ∈ ps, p.fit) : Calls Tryd.prog 8 #[.agg (gtCells D m c 512 g pr rc).toArray, .int .u64 (n : Int)] w (Ret fun v w' => ∃ b, v = .bool b ∧ Fr [] w w' ∧ (b = true → gOk g = true ∧ m ≤ 128 ∧ goodL n ps)) := by
  refine enter (fun ρ => ρ 4) Tryd.func8 rfl rfl rfl (res1 rfl) ?_
  have H := SH.nil w
  have hql := hq.len
  have hcap : c ≤ 9223372036854775807 := by have := hq.cap.2; unfold maxLen at this; omega
  have hcap1 := hq.cap.1
  refine sq ?_
  refine rg ?_
  refine bx (v := .agg _) H rfl rfl rfl ?_
  clear H; intro b1 w1 hb1 H _
  refine asg (v := .bool _) rfl rfl ?_
  refine nl ?_
  refine then_n ?_
  refine sq ?_
  refine rg ?_
  first | refine fa rfl fo24_1 rfl ?_ | refine faG rfl fo24_1 rfl ?_
  first | refine ld H rfl sc3 rfl rfl ?_ | refine lc rfl (by first | assumption | exact H.fr.cell (by assumption) (by simp)) sc3 rfl ?_ | refine ld H rfl sc3 (by assumption) rfl ?_
  refine cl ca20 (c_tabSectors _) rfl ?_
  rintro _ w2 ⟨rfl, F⟩
  replace H := H.keep F; clear F
  refine asg (v := .int .u64 _) rfl rfl ?_
  refine nl ?_
  refine then_n ?_
  refine sq ?_
  refine sq ?_
  refine rg ?_
  first | refine fa rfl fo24_2 rfl ?_ | refine faG rfl fo24_2 rfl ?_
  first | refine ld H rfl sc9 rfl rfl ?_ | refine lc rfl (by first | assumption | exact H.fr.cell (by assumption) (by simp)) sc9 rfl ?_ | refine ld H rfl sc9 (by assumption) rfl ?_
  refine cl ca21 (c_guidBytes _ _) rfl ?_
  rintro _ w3 ⟨rfl, F⟩
  replace H := H.keep F; clear F
  refine mv (v := .tuple _) rfl rfl ?_
  refine xt rfl rfl rfl ?_
  refine xt rfl rfl rfl ?_
  refine al H ze45 rfl ?_
  clear H; intro b2 w4 hb2 H _
  refine sa (cs' := Bs (gB g)) H rfl rfl ag45_16 (by rw [Bs_length, gB_len]) (List.all_eq_true.2 Bs_one) (by decide) (by omega) (List.append_nil _) ?_
  clear H; intro w91 H _
  refine asg (v := .bool _) rfl rfl ?_
  refine nl ?_
  refine then_n ?_
  refine sq ?_
  refine rg ?_
  refine mv (v := .bool _) rfl rfl ?_
  refine unot rfl rfl ?_
  refine mv (v := .bool _) rfl rfl ?_
  first | refine spd (t := 29) rfl (fun hg1 => ?_) (fun hg1 => ?_) | refine sp (t := 29) rfl (fun hg1 => ?_) (fun hg1 => ?_)   -- guard 1
  · refine gn rfl rfl ?_
    refine gn rfl rfl ?_
    refine gn rfl rfl ?_
    refine pkT (v := .bool _) rfl rfl rfl ?_
    refine mv (v := .bool _) rfl rfl ?_
    refine gn rfl rfl ?_
    refine gn rfl rfl ?_
    refine gn rfl rfl ?_
    refine gn rfl rfl ?_
    refine gn rfl rfl ?_
    refine pkT (v := .bool _) rfl rfl rfl ?_
    refine mv (v := .bool _) rfl rfl ?_
    refine gn rfl rfl ?_
    refine gn rfl rfl ?_
    refine gn rfl rfl ?_
    refine gn rfl rfl ?_
    refine pkT (v := .bool _) rfl rfl rfl ?_
    refine nl ?_
    refine then_n ?_
    refine cbT rfl rfl ?_
    refine sq ?_
    refine rg ?_
    refine asg (v := .bool _) rfl rfl ?_
    refine nl ?_
    refine then_n ?_
    refine rt ?_
    refine then_r ?_
    refine fin_r ?_
    exact ⟨false, rfl, H.fr, fun h => by exact Bool.noConfusion h⟩
  · refine gy rfl ?_
    first | refine fa rfl fo24_1 rfl ?_ | refine faG rfl fo24_1 rfl ?_
    refine gy rfl ?_
    first | refine ld H rfl sc3 rfl rfl ?_ | refine lc rfl (by first | assumption | exact H.fr.cell (by assumption) (by simp)) sc3 rfl ?_ | refine ld H rfl sc3 (by assumption) rfl ?_
    refine gy rfl ?_
    refine lss rfl rfl rfl ?_
    refine pkF (v := .bool _) rfl rfl rfl ?_
    refine mv (v := .bool _) rfl rfl ?_
    first | refine spd (t := 34) rfl (fun hg2 => ?_) (fun hg2 => ?_) | refine sp (t := 34) rfl (fun hg2 => ?_) (fun hg2 => ?_)   -- guard 2
    · refine gn rfl rfl ?_
      refine gn rfl rfl ?_
      refine gn rfl rfl ?_
      refine gn rfl rfl ?_
      refine gn rfl rfl ?_
      refine pkT (v := .bool _) rfl rfl rfl ?_
      refine mv (v := .bool _) rfl rfl ?_
      refine gn rfl rfl ?_
      refine gn rfl rfl ?_
      refine gn rfl rfl ?_
      refine gn rfl rfl ?_
      refine pkT (v := .bool _) rfl rfl rfl ?_
      refine nl ?_
      refine then_n ?_
      refine cbT rfl rfl ?_
      refine sq ?_
      refine rg ?_
      refine asg (v := .bool _) rfl rfl ?_
      refine nl ?_
      refine then_n ?_
      refine rt ?_
      refine then_r ?_
      refine fin_r ?_
      exact ⟨false, rfl, H.fr, fun h => by exact Bool.noConfusion h⟩
    · refine gy rfl ?_
      refine mv (v := .int .u64 _) rfl rfl ?_
      refine gy rfl ?_
      refine mv (v := .int .u64 _) rfl rfl ?_
      refine gy rfl ?_
      refine mul rfl rfl (by first | exact w_u64 (by omega) | exact w_u64 (rng_u64 _) | exact m_u64 _) rfl ?_
      refine gy rfl ?_
      refine add rfl rfl (by first | exact w_u64 (by omega) | exact w_u64 (rng_u64 _) | exact m_u64 _) rfl ?_
      refine gy rfl ?_
      refine lss rfl rfl rfl ?_
      refine pkF (v := .bool _) rfl rfl rfl ?_
      refine mv (v := .bool _) rfl rfl ?_
      first | refine spd (t := 41) rfl (fun hg3 => ?_) (fun hg3 => ?_) | refine sp (t := 41) rfl (fun hg3 => ?_) (fun hg3 => ?_)   -- guard 3
      · refine gn rfl rfl ?_
        refine gn rfl rfl ?_
        refine gn rfl rfl ?_
        refine gn rfl rfl ?_
        refine pkT (v := .bool _) rfl rfl rfl ?_
        refine nl ?_
        refine then_n ?_
        refine cbT rfl rfl ?_
        refine sq ?_
        refine rg ?_
        refine asg (v := .bool _) rfl rfl ?_
        refine nl ?_
        refine then_n ?_
        refine rt ?_
        refine then_r ?_
        refine fin_r ?_
        exact ⟨false, rfl, H.fr, fun h => by exact Bool.noConfusion h⟩
      · refine gy rfl ?_
        first | refine fa rfl fo24_0 rfl ?_ | refine faG rfl fo24_0 rfl ?_
        refine gy rfl ?_
        first | refine ld H rfl sc22 rfl rfl ?_ | refine lc rfl (by first | assumption | exact H.fr.cell (by assumption) (by simp)) sc22 rfl ?_ | refine ld H rfl sc22 (by assumption) rfl ?_
        refine gy rfl ?_
        refine lnS rfl Tryd.underlying22 rfl ?_
        refine gy rfl ?_
        refine gtr rfl rfl rfl ?_
        refine pkF (v := .bool _) rfl rfl rfl ?_
        refine nl ?_
        refine then_n ?_
        first | refine cd rfl (fun hc1 => ?_) (fun hc1 => ?_) | refine cn rfl (fun hc1 => ?_) (fun hc1 => ?_)   -- test 1
        · refine sq ?_
          refine rg ?_
          refine asg (v := .bool _) rfl rfl ?_
          refine nl ?_
          refine then_n ?_
          refine rt ?_
          refine then_r ?_
          refine fin_r ?_
          exact ⟨false, rfl, H.fr, fun h => by exact Bool.noConfusion h⟩
        · refine sk ?_
          refine then_n ?_
          refine sq ?_
          refine sq ?_
          refine rg ?_
          first | refine fa rfl fo24_0 rfl ?_ | refine faG rfl fo24_0 rfl ?_
          first | refine ld H rfl sc22 rfl rfl ?_ | refine lc rfl (by first | assumption | exact H.fr.cell (by assumption) (by simp)) sc22 rfl ?_ | refine ld H rfl sc22 (by assumption) rfl ?_
          refine lnS rfl Tryd.underlying22 rfl ?_
          refine mv (v := .int .i64 _) rfl rfl ?_
          refine nl ?_
          refine then_n ?_
          refine bk ?_
          refine lpM (α := Nat) [4, 8, 9, 10, 11, 12, 13, 15, 17, 50, 51, 52, 53, 54, 55, 56, 57, 58, 59, 60, 61, 62, 63, 64, 65, 66, 67, 68, 69, 70, 71, 72, 73, 74, 75, 76, 77, 78, 79, 80, 81, 82, 83, 84, 85, 86, 87, 88, 89, 90, 91, 92, 93, 94, 95, 96, 97, 98, 99, 100, 101, 102, 103, 104, 105, 106, 107, 108, 109, 110, 111, 112, 113, 114, 115, 116, 117, 118, 119, 120, 121, 122, 123, 124, 125, 126, 127, 128, 129, 130, 131, 132, 133, 134, 135, 136, 137, 138, 139, 140, 141, 142, 143, 144, 145, 146, 147, 148, 149, 150, 151, 152, 153, 154, 155, 156, 157, 158, 159, 160, 161, 162, 163, 164, 165, 166, 167, 168, 169, 170, 171, 172, 173, 174, 175, 176, 177, 178, 179, 180, 181, 182, 183, 184, 185, 186, 187, 188, 189, 190, 191, 192, 193, 194, 195, 196, 197, 198] (fun i => [(50, .int .i64 (i : Int))]) (fun i w' => i ≤ m ∧ (∀ j q, j < i → ps[j]? = some q → q.good n) ∧ ordTo ps i ∧ SH w [] w' [⟨b2, .cells (Bs (gB g)).toArray 45 (0, 0), true⟩, ⟨b1, .cells (gtCells D m c 512 g pr rc).toArray 24 (0, 0), true⟩]) (fun i => m - i) 0 ?_ (fC (by first | rfl | exact congrArg (Value.int _) (by first | omega | assumption | (symm; assumption) | (simp; done) | (simp; omega)) | exact congrArg (fun n => Value.slice _ n _) (by first | omega | (simp; done) | (simp; omega))) (fN _)) ?_   -- loop 1
          · exact ⟨by omega, fun j p hj => by omega, fun j q r hj => by omega, H⟩
          · rintro i ρx w5 ⟨hi, hs, ho, H⟩
            refine sq ?_
            refine rg ?_
            refine lss rfl rfl rfl ?_
            refine nl ?_
            refine then_n ?_
            refine sq ?_
            first | refine cd rfl (fun hc2 => ?_) (fun hc2 => ?_) | refine cn rfl (fun hc2 => ?_) (fun hc2 => ?_)   -- test 2
            · obtain ⟨p, hpi⟩ : ∃ p, ps[i]? = some p := ⟨_, List.getElem?_eq_getElem (by omega)⟩
              obtain ⟨ad, rfl⟩ := hq.some_of (by omega)
              have hpm := List.mem_of_getElem? hpi
              obtain ⟨o1, o2, o3, o4, o5⟩ := hq.ok p hpm
              have hnl := (hft p hpm).nm
              refine sk ?_
              refine then_n ?_
              refine sq ?_
              refine bk ?_
              refine sq ?_
              refine rg ?_
              refine mv (v := .int .i64 _) rfl rfl ?_
              refine iBN (ad.add (i * 8)) rfl rfl Tryd.underlying22 sz49_8 (by omega) (by simp) rfl ?_
              refine lw (vs := p.cells) rfl ag49_8 rfl (fun j v h => H.fr.cell (hq.elem hpi j v h) (by simp)) rfl ?_
              refine al H ze49 rfl ?_
              clear H; intro b3 w6 hb3 H _
              refine asg (v := .int .i64 _) rfl rfl ?_
              refine sa (cs' := p.cells) H rfl rfl ag49_8 rfl rfl (by decide) (by omega) rfl ?_
              clear H; intro w35 H _
              refine nl ?_
              refine then_n ?_
              refine sq ?_
              refine rg ?_
              first | refine fa rfl fo49_4 rfl ?_ | refine faG rfl fo49_4 rfl ?_
              first | refine ld H rfl sc9 rfl rfl ?_ | refine lc rfl (by first | assumption | exact H.fr.cell (by assumption) (by simp)) sc9 rfl ?_ | refine ld H rfl sc9 (by assumption) rfl ?_
              refine cl ca21 (c_guidBytes _ _) rfl ?_
              rintro _ w7 ⟨rfl, F⟩
              replace H := H.keep F; clear F
              refine mv (v := .tuple _) rfl rfl ?_
              refine xt rfl rfl rfl ?_
              refine xt rfl rfl rfl ?_
              refine al H ze45 rfl ?_
              clear H; intro b4 w8 hb4 H _
              refine sa (cs' := Bs (gB p.ty)) H rfl rfl ag45_16 (by rw [Bs_length, gB_len]) (List.all_eq_true.2 Bs_one) (by decide) (by omega) (List.append_nil _) ?_
              clear H; intro w92 H _
              refine asg (v := .bool _) rfl rfl ?_
              refine nl ?_
              refine then_n ?_
              refine sq ?_
              refine rg ?_
              first | refine fa rfl fo49_6 rfl ?_ | refine faG rfl fo49_6 rfl ?_
              first | refine ld H rfl sc9 rfl rfl ?_ | refine lc rfl (by first | assumption | exact H.fr.cell (by assumption) (by simp)) sc9 rfl ?_ | refine ld H rfl sc9 (by assumption) rfl ?_
              refine cl ca21 (c_guidBytes _ _) rfl ?_
              rintro _ w9 ⟨rfl, F⟩
              replace H := H.keep F; clear F
              refine mv (v := .tuple _) rfl rfl ?_
              refine xt rfl rfl rfl ?_
              refine xt rfl rfl rfl ?_
              refine al H ze45 rfl ?_
              clear H; intro b5 w10 hb5 H _
              refine sa (cs' := Bs (gB p.gu)) H rfl rfl ag45_16 (by rw [Bs_length, gB_len]) (List.all_eq_true.2 Bs_one) (by decide) (by omega) (List.append_nil _) ?_
              clear H; intro w93 H _
              refine asg (v := .bool _) rfl rfl ?_
              refine nl ?_
              refine then_n ?_
              refine ctM (α := Unit) [4, 67, 68, 69, 70, 71, 72, 73, 74, 75, 76, 77, 78, 79, 80, 81, 82, 83, 84, 85, 86, 87, 88, 89, 90, 91, 92, 93, 94, 95, 96, 97, 98, 99, 100, 101, 102, 103, 104, 105, 106, 107, 108, 109, 110, 111, 112, 113, 114, 115, 116, 117, 118, 119, 120] (fun _u => []) (fun _u w' => (gOk p.ty = true ∧ gOk p.gu = true ∧ sameG p.ty zG = false ∧ sameG p.gu zG = false ∧ (utf16 p.nm).length ≤ 36 ∧ (1 ≤ p.ix ∧ p.ix ≤ 128) ∧ (∀ q, 0 < i → ps[i - 1]? = some q → q.ix < p.ix)) ∧ SH w [] w' [⟨b5, .cells (Bs (gB p.gu)).toArray 45 (0, 0), true⟩, ⟨b4, .cells (Bs (gB p.ty)).toArray 45 (0, 0), true⟩, ⟨b3, .cells p.cells.toArray 49 (0, 0), true⟩, ⟨b2, .cells (Bs (gB g)).toArray 45 (0, 0), true⟩, ⟨b1, .cells (gtCells (some ad) m c 512 g pr rc).toArray 24 (0, 0), true⟩]) ?_ ?_   -- cut
              · refine sq ?_
                refine dr (by kernel_rfl) ?_   -- region 10
                have H := H.drew
                refine holdH H [] ?_
                refine tk (i := 0) rfl (by kernel_rfl) rfl H (fun w' H => r_mv (v := .bool _) rfl) ?_
                refine tk (i := 1) rfl (by kernel_rfl) rfl H (fun w' H => r_unot rfl) ?_
                refine tk (i := 2) rfl (by kernel_rfl) rfl H (fun w' H => r_mv (v := .bool _) rfl) ?_
                first | refine spad (t := 69) rfl (fun hg4 => ?_) (fun hg4 => ?_) | refine spa (t := 69) rfl (fun hg4 => ?_) (fun hg4 => ?_)   -- guard 4
                · refine tkn (i := 3) rfl (by kernel_rfl) rfl H rfl ?_
                  refine tkn (i := 4) rfl (by kernel_rfl) rfl H rfl ?_
                  refine tk (i := 5) rfl (by kernel_rfl) rfl H (fun w' H => r_pkT (v := .bool _) rfl rfl) ?_
                  refine tk (i := 6) rfl (by kernel_rfl) rfl H (fun w' H => r_mv (v := .bool _) rfl) ?_
                  refine tkn (i := 7) rfl (by kernel_rfl) rfl H rfl ?_
                  refine tkn (i := 8) rfl (by kernel_rfl) rfl H rfl ?_
                  refine tkn (i := 9) rfl (by kernel_rfl) rfl H rfl ?_
                  refine tk (i := 10) rfl (by kernel_rfl) rfl H (fun w' H => r_pkT (v := .bool _) rfl rfl) ?_
                  refine tk (i := 11) rfl (by kernel_rfl) rfl H (fun w' H => r_mv (v := .bool _) rfl) ?_
                  refine tkn (i := 12) rfl (by kernel_rfl) rfl H rfl ?_
                  refine tkn (i := 13) rfl (by kernel_rfl) rfl H rfl ?_
                  refine tkn (i := 14) rfl (by kernel_rfl) rfl H rfl ?_
                  refine tk (i := 15) rfl (by kernel_rfl) rfl H (fun w' H => r_pkT (v := .bool _) rfl rfl) ?_
                  refine tk (i := 16) rfl (by kernel_rfl) rfl H (fun w' H => r_mv (v := .bool _) rfl) ?_
                  refine tkn (i := 17) rfl (by kernel_rfl) rfl H rfl ?_
                  refine tkn (i := 18) rfl (by kernel_rfl) rfl H rfl ?_
                  refine tkn (i := 19) rfl (by kernel_rfl) rfl H rfl ?_
                  refine tkn (i := 20) rfl (by kernel_rfl) rfl H rfl ?_
                  refine tk (i := 21) rfl (by kernel_rfl) rfl H (fun w' H => r_pkT (v := .bool _) rfl rfl) ?_
                  refine tk (i := 22) rfl (by kernel_rfl) rfl H (fun w' H => r_mv (v := .bool _) rfl) ?_
                  refine tkn (i := 23) rfl (by kernel_rfl) rfl H rfl ?_
                  refine tkn (i := 24) rfl (by kernel_rfl) rfl H rfl ?_
                  refine tkn (i := 25) rfl (by kernel_rfl) rfl H rfl ?_
                  refine tkn (i := 26) rfl (by kernel_rfl) rfl H rfl ?_
                  refine tk (i := 27) rfl (by kernel_rfl) rfl H (fun w' H => r_pkT (v := .bool _) rfl rfl) ?_
                  refine tk (i := 28) rfl (by kernel_rfl) rfl H (fun w' H => r_mv (v := .bool _) rfl) ?_
                  refine tkn (i := 29) rfl (by kernel_rfl) rfl H rfl ?_
                  refine tkn (i := 30) rfl (by kernel_rfl) rfl H rfl ?_
                  refine tkn (i := 31) rfl (by kernel_rfl) rfl H rfl ?_
                  refine tk (i := 32) rfl (by kernel_rfl) rfl H (fun w' H => r_pkT (v := .bool _) rfl rfl) ?_
                  refine tk (i := 33) rfl (by kernel_rfl) rfl H (fun w' H => r_mv (v := .bool _) rfl) ?_
                  refine tkn (i := 34) rfl (by kernel_rfl) rfl H rfl ?_
                  refine tkn (i := 35) rfl (by kernel_rfl) rfl H rfl ?_
                  refine tkn (i := 36) rfl (by kernel_rfl) rfl H rfl ?_
                  refine tk (i := 37) rfl (by kernel_rfl) rfl H (fun w' H => r_pkT (v := .bool _) rfl rfl) ?_
                  refine tk (i := 38) rfl (by kernel_rfl) rfl H (fun w' H => r_mv (v := .bool _) rfl) ?_
                  refine tkn (i := 39) rfl (by kernel_rfl) rfl H rfl ?_
                  refine tkn (i := 40) rfl (by kernel_rfl) rfl H rfl ?_
                  refine tkn (i := 41) rfl (by kernel_rfl) rfl H rfl ?_
                  refine tknU (i := 42) rfl (by kernel_rfl) rfl H rfl ?_
                  refine tknU (i := 43) rfl (by kernel_rfl) rfl H rfl ?_
                  refine tknU (i := 44) rfl (by kernel_rfl) rfl H rfl ?_
                  refine tknU (i := 45) rfl (by kernel_rfl) rfl H rfl ?_
                  refine tknU (i := 46) rfl (by kernel_rfl) rfl H rfl ?_
                  refine tknU (i := 47) rfl (by kernel_rfl) rfl H rfl ?_
                  refine tknU (i := 48) rfl (by kernel_rfl) rfl H rfl ?_
                  refine tknU (i := 49) rfl (by kernel_rfl) rfl H rfl ?_
                  refine tknU (i := 50) rfl (by kernel_rfl) rfl H rfl ?_
                  refine tknU (i := 51) rfl (by kernel_rfl) rfl H rfl ?_
                  refine tkn (i := 52) rfl (by kernel_rfl) rfl H rfl ?_
                  refine tk (i := 53) rfl (by kernel_rfl) rfl H (fun w' H => r_pkT (v := .bool _) rfl rfl) ?_
                  refine da (by kernel_rfl) ?_
                  refine then_n ?_
                  refine cbT rfl rfl ?_
                  refine sq ?_
                  refine rg ?_
                  refine asg (v := .bool _) rfl rfl ?_
                  refine nl ?_
                  refine then_n ?_
                  refine rt ?_
                  refine then_r ?_
                  refine in_r ?_
                  refine then_r ?_
                  refine loop_r ?_
                  refine in_r ?_
                  refine then_r ?_
                  refine fin_r ?_
                  exact ⟨false, rfl, H.fr, fun h => by exact Bool.noConfusion h⟩
                · refine tkg (i := 3) rfl (by kernel_rfl) rfl H rfl (fun w' H => r_mv (v := .bool _) rfl) ?_
                  refine tkg (i := 4) rfl (by kernel_rfl) rfl H rfl (fun w' H => r_unot rfl) ?_
                  refine tk (i := 5) rfl (by kernel_rfl) rfl H (fun w' H => r_pkF (v := .bool _) rfl rfl) ?_
                  refine tk (i := 6) rfl (by kernel_rfl) rfl H (fun w' H => r_mv (v := .bool _) rfl) ?_
                  first | refine spad (t := 73) rfl (fun hg5 => ?_) (fun hg5 => ?_) | refine spa (t := 73) rfl (fun hg5 => ?_) (fun hg5 => ?_)   -- guard 5
                  · refine tkn (i := 7) rfl (by kernel_rfl) rfl H rfl ?_
                    refine tkn (i := 8) rfl (by kernel_rfl) rfl H rfl ?_
                    refine tkn (i := 9) rfl (by kernel_rfl) rfl H rfl ?_
                    refine tk (i := 10) rfl (by kernel_rfl) rfl H (fun w' H => r_pkT (v := .bool _) rfl rfl) ?_
                    refine tk (i := 11) rfl (by kernel_rfl) rfl H (fun w' H => r_mv (v := .bool _) rfl) ?_
                    refine tkn (i := 12) rfl (by kernel_rfl) rfl H rfl ?_
                    refine tkn (i := 13) rfl (by kernel_rfl) rfl H rfl ?_
                    refine tkn (i := 14) rfl (by kernel_rfl) rfl H rfl ?_
                    refine tk (i := 15) rfl (by kernel_rfl) rfl H (fun w' H => r_pkT (v := .bool _) rfl rfl) ?_
                    refine tk (i := 16) rfl (by kernel_rfl) rfl H (fun w' H => r_mv (v := .bool _) rfl) ?_
                    refine tkn (i := 17) rfl (by kernel_rfl) rfl H rfl ?_
                    refine tkn (i := 18) rfl (by kernel_rfl) rfl H rfl ?_
                    refine tkn (i := 19) rfl (by kernel_rfl) rfl H rfl ?_
                    refine tkn (i := 20) rfl (by kernel_rfl) rfl H rfl ?_
                    refine tk (i := 21) rfl (by kernel_rfl) rfl H (fun w' H => r_pkT (v := .bool _) rfl rfl) ?_
                    refine tk (i := 22) rfl (by kernel_rfl) rfl H (fun w' H => r_mv (v := .bool _) rfl) ?_
                    refine tkn (i := 23) rfl (by kernel_rfl) rfl H rfl ?_
                    refine tkn (i := 24) rfl (by kernel_rfl) rfl H rfl ?_
                    refine tkn (i := 25) rfl (by kernel_rfl) rfl H rfl ?_
                    refine tkn (i := 26) rfl (by kernel_rfl) rfl H rfl ?_
                    refine tk (i := 27) rfl (by kernel_rfl) rfl H (fun w' H => r_pkT (v := .bool _) rfl rfl) ?_
                    refine tk (i := 28) rfl (by kernel_rfl) rfl H (fun w' H => r_mv (v := .bool _) rfl) ?_
                    refine tkn (i := 29) rfl (by kernel_rfl) rfl H rfl ?_
                    refine tkn (i := 30) rfl (by kernel_rfl) rfl H rfl ?_
                    refine tkn (i := 31) rfl (by kernel_rfl) rfl H rfl ?_
                    refine tk (i := 32) rfl (by kernel_rfl) rfl H (fun w' H => r_pkT (v := .bool _) rfl rfl) ?_
                    refine tk (i := 33) rfl (by kernel_rfl) rfl H (fun w' H => r_mv (v := .bool _) rfl) ?_
                    refine tkn (i := 34) rfl (by kernel_rfl) rfl H rfl ?_
                    refine tkn (i := 35) rfl (by kernel_rfl) rfl H rfl ?_
                    refine tkn (i := 36) rfl (by kernel_rfl) rfl H rfl ?_
                    refine tk (i := 37) rfl (by kernel_rfl) rfl H (fun w' H => r_pkT (v := .bool _) rfl rfl) ?_
                    refine tk (i := 38) rfl (by kernel_rfl) rfl H (fun w' H => r_mv (v := .bool _) rfl) ?_
                    refine tkn (i := 39) rfl (by kernel_rfl) rfl H rfl ?_
                    refine tkn (i := 40) rfl (by kernel_rfl) rfl H rfl ?_
                    refine tkn (i := 41) rfl (by kernel_rfl) rfl H rfl ?_
                    refine tknU (i := 42) rfl (by kernel_rfl) rfl H rfl ?_
                    refine tknU (i := 43) rfl (by kernel_rfl) rfl H rfl ?_
                    refine tknU (i := 44) rfl (by kernel_rfl) rfl H rfl ?_
                    refine tknU (i := 45) rfl (by kernel_rfl) rfl H rfl ?_
                    refine tknU (i := 46) rfl (by kernel_rfl) rfl H rfl ?_
                    refine tknU (i := 47) rfl (by kernel_rfl) rfl H rfl ?_
                    refine tknU (i := 48) rfl (by kernel_rfl) rfl H rfl ?_
                    refine tknU (i := 49) rfl (by kernel_rfl) rfl H rfl ?_
                    refine tknU (i := 50) rfl (by kernel_rfl) rfl H rfl ?_
                    refine tknU (i := 51) rfl (by kernel_rfl) rfl H rfl ?_
                    refine tkn (i := 52) rfl (by kernel_rfl) rfl H rfl ?_
                    refine tk (i := 53) rfl (by kernel_rfl) rfl H (fun w' H => r_pkT (v := .bool _) rfl rfl) ?_
                    refine da (by kernel_rfl) ?_
                    refine then_n ?_
                    refine cbT rfl rfl ?_
                    refine sq ?_
                    refine rg ?_
                    refine asg (v := .bool _) rfl rfl ?_
                    refine nl ?_
                    refine then_n ?_
                    refine rt ?_
                    refine then_r ?_
                    refine in_r ?_
                    refine then_r ?_
                    refine loop_r ?_
                    refine in_r ?_
                    refine then_r ?_
                    refine fin_r ?_
                    exact ⟨false, rfl, H.fr, fun h => by exact Bool.noConfusion h⟩
                  · first | refine tkg (i := 7) rfl (by kernel_rfl) rfl H rfl (fun w' H => r_fa rfl fo49_4) ?_ | refine tkg (i := 7) rfl (by kernel_rfl) rfl H rfl (fun w' H => r_faG rfl fo49_4) ?_
                    first | refine tkg (i := 8) rfl (by kernel_rfl) rfl H rfl (fun w' H => r_ld H rfl sc9 rfl) ?_ | refine tkg (i := 8) rfl (by kernel_rfl) rfl H rfl (fun w' H => r_lc rfl (by first | assumption | exact H.fr.cell (by assumption) (by simp)) sc9) ?_ | refine tkg (i := 8) rfl (by kernel_rfl) rfl H rfl (fun w' H => r_ld H rfl sc9 (by assumption)) ?_
                    refine fk (i := 9) (by kernel_rfl) rfl rfl rfl ?_
                    refine gy rfl ?_
                    refine cl ca22 (c_sameGuid _ _ _) rfl ?_
                    rintro _ w11 ⟨rfl, F⟩
                    replace H := H.keep F; clear F
                    refine nl ?_
                    refine then_n ?_
                    refine ⟨H, ?_⟩
                    refine tk (i := 10) rfl (by kernel_rfl) rfl H (fun w' H => r_pkF (v := .bool _) rfl rfl) ?_
                    refine tk (i := 11) rfl (by kernel_rfl) rfl H (fun w' H => r_mv (v := .bool _) rfl) ?_
                    first | refine spad (t := 78) rfl (fun hg6 => ?_) (fun hg6 => ?_) | refine spa (t := 78) rfl (fun hg6 => ?_) (fun hg6 => ?_)   -- guard 6
                    · refine tkn (i := 12) rfl (by kernel_rfl) rfl H rfl ?_
                      refine tkn (i := 13) rfl (by kernel_rfl) rfl H rfl ?_
                      refine tkn (i := 14) rfl (by kernel_rfl) rfl H rfl ?_
                      refine tk (i := 15) rfl (by kernel_rfl) rfl H (fun w' H => r_pkT (v := .bool _) rfl rfl) ?_
                      refine tk (i := 16) rfl (by kernel_rfl) rfl H (fun w' H => r_mv (v := .bool _) rfl) ?_
                      refine tkn (i := 17) rfl (by kernel_rfl) rfl H rfl ?_
                      refine tkn (i := 18) rfl (by kernel_rfl) rfl H rfl ?_
                      refine tkn (i := 19) rfl (by kernel_rfl) rfl H rfl ?_
                      refine tkn (i := 20) rfl (by kernel_rfl) rfl H rfl ?_
                      refine tk (i := 21) rfl (by kernel_rfl) rfl H (fun w' H => r_pkT (v := .bool _) rfl rfl) ?_
                      refine tk (i := 22) rfl (by kernel_rfl) rfl H (fun w' H => r_mv (v := .bool _) rfl) ?_
                      refine tkn (i := 23) rfl (by kernel_rfl) rfl H rfl ?_
                      refine tkn (i := 24) rfl (by kernel_rfl) rfl H rfl ?_
                      refine tkn (i := 25) rfl (by kernel_rfl) rfl H rfl ?_
                      refine tkn (i := 26) rfl (by kernel_rfl) rfl H rfl ?_
                      refine tk (i := 27) rfl (by kernel_rfl) rfl H (fun w' H => r_pkT (v := .bool _) rfl rfl) ?_
                      refine tk (i := 28) rfl (by kernel_rfl) rfl H (fun w' H => r_mv (v := .bool _) rfl) ?_
                      refine tkn (i := 29) rfl (by kernel_rfl) rfl H rfl ?_
                      refine tkn (i := 30) rfl (by kernel_rfl) rfl H rfl ?_
                      refine tkn (i := 31) rfl (by kernel_rfl) rfl H rfl ?_
                      refine tk (i := 32) rfl (by kernel_rfl) rfl H (fun w' H => r_pkT (v := .bool _) rfl rfl) ?_
                      refine tk (i := 33) rfl (by kernel_rfl) rfl H (fun w' H => r_mv (v := .bool _) rfl) ?_
                      refine tkn (i := 34) rfl (by kernel_rfl) rfl H rfl ?_
                      refine tkn (i := 35) rfl (by kernel_rfl) rfl H rfl ?_
                      refine tkn (i := 36) rfl (by kernel_rfl) rfl H rfl ?_
                      refine tk (i := 37) rfl (by kernel_rfl) rfl H (fun w' H => r_pkT (v := .bool _) rfl rfl) ?_
                      refine tk (i := 38) rfl (by kernel_rfl) rfl H (fun w' H => r_mv (v := .bool _) rfl) ?_
                      refine tkn (i := 39) rfl (by kernel_rfl) rfl H rfl ?_
                      refine tkn (i := 40) rfl (by kernel_rfl) rfl H rfl ?_
                      refine tkn (i := 41) rfl (by kernel_rfl) rfl H rfl ?_
                      refine tknU (i := 42) rfl (by kernel_rfl) rfl H rfl ?_
                      refine tknU (i := 43) rfl (by kernel_rfl) rfl H rfl ?_
                      refine tknU (i := 44) rfl (by kernel_rfl) rfl H rfl ?_
                      refine tknU (i := 45) rfl (by kernel_rfl) rfl H rfl ?_
                      refine tknU (i := 46) rfl (by kernel_rfl) rfl H rfl ?_
                      refine tknU (i := 47) rfl (by kernel_rfl) rfl H rfl ?_
                      refine tknU (i := 48) rfl (by kernel_rfl) rfl H rfl ?_
                      refine tknU (i := 49) rfl (by kernel_rfl) rfl H rfl ?_
                      refine tknU (i := 50) rfl (by kernel_rfl) rfl H rfl ?_
                      refine tknU (i := 51) rfl (by kernel_rfl) rfl H rfl ?_
                      refine tkn (i := 52) rfl (by kernel_rfl) rfl H rfl ?_
                      refine tk (i := 53) rfl (by kernel_rfl) rfl H (fun w' H => r_pkT (v := .bool _) rfl rfl) ?_
                      refine da (by kernel_rfl) ?_
                      refine then_n ?_
                      refine cbT rfl rfl ?_
                      refine sq ?_
                      refine rg ?_
                      refine asg (v := .bool _) rfl rfl ?_
                      refine nl ?_
                      refine then_n ?_
                      refine rt ?_
                      refine then_r ?_
                      refine in_r ?_
                      refine then_r ?_
                      refine loop_r ?_
                      refine in_r ?_
                      refine then_r ?_
                      refine fin_r ?_
                      exact ⟨false, rfl, H.fr, fun h => by exact Bool.noConfusion h⟩
                    · first | refine tkg (i := 12) rfl (by kernel_rfl) rfl H rfl (fun w' H => r_fa rfl fo49_6) ?_ | refine tkg (i := 12) rfl (by kernel_rfl) rfl H rfl (fun w' H => r_faG rfl fo49_6) ?_
                      first | refine tkg (i := 13) rfl (by kernel_rfl) rfl H rfl (fun w' H => r_ld H rfl sc9 rfl) ?_ | refine tkg (i := 13) rfl (by kernel_rfl) rfl H rfl (fun w' H => r_lc rfl (by first | assumption | exact H.fr.cell (by assumption) (by simp)) sc9) ?_ | refine tkg (i := 13) rfl (by kernel_rfl) rfl H rfl (fun w' H => r_ld H rfl sc9 (by assumption)) ?_
                      refine fk (i := 14) (by kernel_rfl) rfl rfl rfl ?_
                      refine gy rfl ?_
                      refine cl ca22 (c_sameGuid _ _ _) rfl ?_
                      rintro _ w12 ⟨rfl, F⟩
                      replace H := H.keep F; clear F
                      refine nl ?_
                      refine then_n ?_
                      refine ⟨H, ?_⟩
                      refine tk (i := 15) rfl (by kernel_rfl) rfl H (fun w' H => r_pkF (v := .bool _) rfl rfl) ?_
                      refine tk (i := 16) rfl (by kernel_rfl) rfl H (fun w' H => r_mv (v := .bool _) rfl) ?_
                      first | refine spad (t := 83) rfl (fun hg7 => ?_) (fun hg7 => ?_) | refine spa (t := 83) rfl (fun hg7 => ?_) (fun hg7 => ?_)   -- guard 7
                      · refine tkn (i := 17) rfl (by kernel_rfl) rfl H rfl ?_
                        refine tkn (i := 18) rfl (by kernel_rfl) rfl H rfl ?_
                        refine tkn (i := 19) rfl (by kernel_rfl) rfl H rfl ?_
                        refine tkn (i := 20) rfl (by kernel_rfl) rfl H rfl ?_
                        refine tk (i := 21) rfl (by kernel_rfl) rfl H (fun w' H => r_pkT (v := .bool _) rfl rfl) ?_
                        refine tk (i := 22) rfl (by kernel_rfl) rfl H (fun w' H => r_mv (v := .bool _) rfl) ?_
                        refine tkn (i := 23) rfl (by kernel_rfl) rfl H rfl ?_
                        refine tkn (i := 24) rfl (by kernel_rfl) rfl H rfl ?_
                        refine tkn (i := 25) rfl (by kernel_rfl) rfl H rfl ?_
                        refine tkn (i := 26) rfl (by kernel_rfl) rfl H rfl ?_
                        refine tk (i := 27) rfl (by kernel_rfl) rfl H (fun w' H => r_pkT (v := .bool _) rfl rfl) ?_
                        refine tk (i := 28) rfl (by kernel_rfl) rfl H (fun w' H => r_mv (v := .bool _) rfl) ?_
                        refine tkn (i := 29) rfl (by kernel_rfl) rfl H rfl ?_
                        refine tkn (i := 30) rfl (by kernel_rfl) rfl H rfl ?_
                        refine tkn (i := 31) rfl (by kernel_rfl) rfl H rfl ?_
                        refine tk (i := 32) rfl (by kernel_rfl) rfl H (fun w' H => r_pkT (v := .bool _) rfl rfl) ?_
                        refine tk (i := 33) rfl (by kernel_rfl) rfl H (fun w' H => r_mv (v := .bool _) rfl) ?_
                        refine tkn (i := 34) rfl (by kernel_rfl) rfl H rfl ?_
                        refine tkn (i := 35) rfl (by kernel_rfl) rfl H rfl ?_
                        refine tkn (i := 36) rfl (by kernel_rfl) rfl H rfl ?_
                        refine tk (i := 37) rfl (by kernel_rfl) rfl H (fun w' H => r_pkT (v := .bool _) rfl rfl) ?_
                        refine tk (i := 38) rfl (by kernel_rfl) rfl H (fun w' H => r_mv (v := .bool _) rfl) ?_
                        refine tkn (i := 39) rfl (by kernel_rfl) rfl H rfl ?_
                        refine tkn (i := 40) rfl (by kernel_rfl) rfl H rfl ?_
                        refine tkn (i := 41) rfl (by kernel_rfl) rfl H rfl ?_
                        refine tknU (i := 42) rfl (by kernel_rfl) rfl H rfl ?_
                        refine tknU (i := 43) rfl (by kernel_rfl) rfl H rfl ?_
                        refine tknU (i := 44) rfl (by kernel_rfl) rfl H rfl ?_
                        refine tknU (i := 45) rfl (by kernel_rfl) rfl H rfl ?_
                        refine tknU (i := 46) rfl (by kernel_rfl) rfl H rfl ?_
                        refine tknU (i := 47) rfl (by kernel_rfl) rfl H rfl ?_
                        refine tknU (i := 48) rfl (by kernel_rfl) rfl H rfl ?_
                        refine tknU (i := 49) rfl (by kernel_rfl) rfl H rfl ?_
                        refine tknU (i := 50) rfl (by kernel_rfl) rfl H rfl ?_
                        refine tknU (i := 51) rfl (by kernel_rfl) rfl H rfl ?_
                        refine tkn (i := 52) rfl (by kernel_rfl) rfl H rfl ?_
                        refine tk (i := 53) rfl (by kernel_rfl) rfl H (fun w' H => r_pkT (v := .bool _) rfl rfl) ?_
                        refine da (by kernel_rfl) ?_
                        refine then_n ?_
                        refine cbT rfl rfl ?_
                        refine sq ?_
                        refine rg ?_
                        refine asg (v := .bool _) rfl rfl ?_
                        refine nl ?_
                        refine then_n ?_
                        refine rt ?_
                        refine then_r ?_
                        refine in_r ?_
                        refine then_r ?_
                        refine loop_r ?_
                        refine in_r ?_
                        refine then_r ?_
                        refine fin_r ?_
                        exact ⟨false, rfl, H.fr, fun h => by exact Bool.noConfusion h⟩
                      · first | refine tkg (i := 17) rfl (by kernel_rfl) rfl H rfl (fun w' H => r_fa rfl fo49_5) ?_ | refine tkg (i := 17) rfl (by kernel_rfl) rfl H rfl (fun w' H => r_faG rfl fo49_5) ?_
                        first | refine tkg (i := 18) rfl (by kernel_rfl) rfl H rfl (fun w' H => r_ld H rfl sc9 rfl) ?_ | refine tkg (i := 18) rfl (by kernel_rfl) rfl H rfl (fun w' H => r_lc rfl (by first | assumption | exact H.fr.cell (by assumption) (by simp)) sc9) ?_ | refine tkg (i := 18) rfl (by kernel_rfl) rfl H rfl (fun w' H => r_ld H rfl sc9 (by assumption)) ?_
                        refine fk (i := 19) (by kernel_rfl) rfl rfl rfl ?_
                        refine gy rfl ?_
                        refine cl ca23 (c_gptName _ _ (by omega)) rfl ?_
                        rintro _ w13 ⟨rfl, F⟩
                        replace H := H.keep F; clear F
                        refine nl ?_
                        refine then_n ?_
                        refine ⟨H, ?_⟩
                        refine tkg (i := 20) rfl (by kernel_rfl) rfl H rfl (fun w' H => r_unot rfl) ?_
                        refine tk (i := 21) rfl (by kernel_rfl) rfl H (fun w' H => r_pkF (v := .bool _) rfl rfl) ?_
                        refine tk (i := 22) rfl (by kernel_rfl) rfl H (fun w' H => r_mv (v := .bool _) rfl) ?_
                        first | refine spad (t := 89) rfl (fun hg8 => ?_) (fun hg8 => ?_) | refine spa (t := 89) rfl (fun hg8 => ?_) (fun hg8 => ?_)   -- guard 8
                        · refine tkn (i := 23) rfl (by kernel_rfl) rfl H rfl ?_
                          refine tkn (i := 24) rfl (by kernel_rfl) rfl H rfl ?_
                          refine tkn (i := 25) rfl (by kernel_rfl) rfl H rfl ?_
                          refine tkn (i := 26) rfl (by kernel_rfl) rfl H rfl ?_
                          refine tk (i := 27) rfl (by kernel_rfl) rfl H (fun w' H => r_pkT (v := .bool _) rfl rfl) ?_
                          refine tk (i := 28) rfl (by kernel_rfl) rfl H (fun w' H => r_mv (v := .bool _) rfl) ?_
                          refine tkn (i := 29) rfl (by kernel_rfl) rfl H rfl ?_
                          refine tkn (i := 30) rfl (by kernel_rfl) rfl H rfl ?_
                          refine tkn (i := 31) rfl (by kernel_rfl) rfl H rfl ?_
                          refine tk (i := 32) rfl (by kernel_rfl) rfl H (fun w' H => r_pkT (v := .bool _) rfl rfl) ?_
                          refine tk (i := 33) rfl (by kernel_rfl) rfl H (fun w' H => r_mv (v := .bool _) rfl) ?_
                          refine tkn (i := 34) rfl (by kernel_rfl) rfl H rfl ?_
                          refine tkn (i := 35) rfl (by kernel_rfl) rfl H rfl ?_
                          refine tkn (i := 36) rfl (by kernel_rfl) rfl H rfl ?_
                          refine tk (i := 37) rfl (by kernel_rfl) rfl H (fun w' H => r_pkT (v := .bool _) rfl rfl) ?_
                          refine tk (i := 38) rfl (by kernel_rfl) rfl H (fun w' H => r_mv (v := .bool _) rfl) ?_
                          refine tkn (i := 39) rfl (by kernel_rfl) rfl H rfl ?_
                          refine tkn (i := 40) rfl (by kernel_rfl) rfl H rfl ?_
                          refine tkn (i := 41) rfl (by kernel_rfl) rfl H rfl ?_
                          refine tknU (i := 42) rfl (by kernel_rfl) rfl H rfl ?_
                          refine tknU (i := 43) rfl (by kernel_rfl) rfl H rfl ?_
                          refine tknU (i := 44) rfl (by kernel_rfl) rfl H rfl ?_
                          refine tknU (i := 45) rfl (by kernel_rfl) rfl H rfl ?_
                          refine tknU (i := 46) rfl (by kernel_rfl) rfl H rfl ?_
                          refine tknU (i := 47) rfl (by kernel_rfl) rfl H rfl ?_
                          refine tknU (i := 48) rfl (by kernel_rfl) rfl H rfl ?_
                          refine tknU (i := 49) rfl (by kernel_rfl) rfl H rfl ?_
                          refine tknU (i := 50) rfl (by kernel_rfl) rfl H rfl ?_
                          refine tknU (i := 51) rfl (by kernel_rfl) rfl H rfl ?_
                          refine tkn (i := 52) rfl (by kernel_rfl) rfl H rfl ?_
                          refine tk (i := 53) rfl (by kernel_rfl) rfl H (fun w' H => r_pkT (v := .bool _) rfl rfl) ?_
                          refine da (by kernel_rfl) ?_
                          refine then_n ?_
                          refine cbT rfl rfl ?_
                          refine sq ?_
                          refine rg ?_
                          refine asg (v := .bool _) rfl rfl ?_
                          refine nl ?_
                          refine then_n ?_
                          refine rt ?_
                          refine then_r ?_
                          refine in_r ?_
                          refine then_r ?_
                          refine loop_r ?_
                          refine in_r ?_
                          refine then_r ?_
                          refine fin_r ?_
                          exact ⟨false, rfl, H.fr, fun h => by exact Bool.noConfusion h⟩
                        · first | refine tkg (i := 23) rfl (by kernel_rfl) rfl H rfl (fun w' H => r_fa rfl fo49_5) ?_ | refine tkg (i := 23) rfl (by kernel_rfl) rfl H rfl (fun w' H => r_faG rfl fo49_5) ?_
                          first | refine tkg (i := 24) rfl (by kernel_rfl) rfl H rfl (fun w' H => r_ld H rfl sc9 rfl) ?_ | refine tkg (i := 24) rfl (by kernel_rfl) rfl H rfl (fun w' H => r_lc rfl (by first | assumption | exact H.fr.cell (by assumption) (by simp)) sc9) ?_ | refine tkg (i := 24) rfl (by kernel_rfl) rfl H rfl (fun w' H => r_ld H rfl sc9 (by assumption)) ?_
                          refine fk (i := 25) (by kernel_rfl) rfl rfl rfl ?_
                          refine gy rfl ?_
                          refine cl ca24 (c_valid _ p.nm (hU.keep H.fr) (by omega)) rfl ?_
                          rintro _ w14 ⟨gv, rfl, F⟩
                          replace H := H.keep F; clear F
                          refine nl ?_
                          refine then_n ?_
                          refine ⟨H, ?_⟩
                          refine tkg (i := 26) rfl (by kernel_rfl) rfl H rfl (fun w' H => r_unot rfl) ?_
                          refine tk (i := 27) rfl (by kernel_rfl) rfl H (fun w' H => r_pkF (v := .bool _) rfl rfl) ?_
                          refine tk (i := 28) rfl (by kernel_rfl) rfl H (fun w' H => r_mv (v := .bool _) rfl) ?_
                          first | refine spad (t := 95) rfl (fun hg9 => ?_) (fun hg9 => ?_) | refine spa (t := 95) rfl (fun hg9 => ?_) (fun hg9 => ?_)   -- guard 9
                          · refine tkn (i := 29) rfl (by kernel_rfl) rfl H rfl ?_
                            refine tkn (i := 30) rfl (by kernel_rfl) rfl H rfl ?_
                            refine tkn (i := 31) rfl (by kernel_rfl) rfl H rfl ?_
                            refine tk (i := 32) rfl (by kernel_rfl) rfl H (fun w' H => r_pkT (v := .bool _) rfl rfl) ?_
                            refine tk (i := 33) rfl (by kernel_rfl) rfl H (fun w' H => r_mv (v := .bool _) rfl) ?_
                            refine tkn (i := 34) rfl (by kernel_rfl) rfl H rfl ?_
                            refine tkn (i := 35) rfl (by kernel_rfl) rfl H rfl ?_
                            refine tkn (i := 36) rfl (by kernel_rfl) rfl H rfl ?_
                            refine tk (i := 37) rfl (by kernel_rfl) rfl H (fun w' H => r_pkT (v := .bool _) rfl rfl) ?_
                            refine tk (i := 38) rfl (by kernel_rfl) rfl H (fun w' H => r_mv (v := .bool _) rfl) ?_
                            refine tkn (i := 39) rfl (by kernel_rfl) rfl H rfl ?_
                            refine tkn (i := 40) rfl (by kernel_rfl) rfl H rfl ?_
                            refine tkn (i := 41) rfl (by kernel_rfl) rfl H rfl ?_
                            refine tknU (i := 42) rfl (by kernel_rfl) rfl H rfl ?_
                            refine tknU (i := 43) rfl (by kernel_rfl) rfl H rfl ?_
                            refine tknU (i := 44) rfl (by kernel_rfl) rfl H rfl ?_
                            refine tknU (i := 45) rfl (by kernel_rfl) rfl H rfl ?_
                            refine tknU (i := 46) rfl (by kernel_rfl) rfl H rfl ?_
                            refine tknU (i := 47) rfl (by kernel_rfl) rfl H rfl ?_
                            refine tknU (i := 48) rfl (by kernel_rfl) rfl H rfl ?_
                            refine tknU (i := 49) rfl (by kernel_rfl) rfl H rfl ?_
                            refine tknU (i := 50) rfl (by kernel_rfl) rfl H rfl ?_
                            refine tknU (i := 51) rfl (by kernel_rfl) rfl H rfl ?_
                            refine tkn (i := 52) rfl (by kernel_rfl) rfl H rfl ?_
                            refine tk (i := 53) rfl (by kernel_rfl) rfl H (fun w' H => r_pkT (v := .bool _) rfl rfl) ?_
                            refine da (by kernel_rfl) ?_
                            refine then_n ?_
                            refine cbT rfl rfl ?_
                            refine sq ?_
                            refine rg ?_
                            refine asg (v := .bool _) rfl rfl ?_
                            refine nl ?_
                            refine then_n ?_
                            refine rt ?_
                            refine then_r ?_
                            refine in_r ?_
                            refine then_r ?_
                            refine loop_r ?_
                            refine in_r ?_
                            refine then_r ?_
                            refine fin_r ?_
                            exact ⟨false, rfl, H.fr, fun h => by exact Bool.noConfusion h⟩
                          · first | refine tkg (i := 29) rfl (by kernel_rfl) rfl H rfl (fun w' H => r_fa rfl fo49_0) ?_ | refine tkg (i := 29) rfl (by kernel_rfl) rfl H rfl (fun w' H => r_faG rfl fo49_0) ?_
                            first | refine tkg (i := 30) rfl (by kernel_rfl) rfl H rfl (fun w' H => r_ld H rfl sc3 rfl) ?_ | refine tkg (i := 30) rfl (by kernel_rfl) rfl H rfl (fun w' H => r_lc rfl (by first | assumption | exact H.fr.cell (by assumption) (by simp)) sc3) ?_ | refine tkg (i := 30) rfl (by kernel_rfl) rfl H rfl (fun w' H => r_ld H rfl sc3 (by assumption)) ?_
                            refine tkg (i := 31) rfl (by kernel_rfl) rfl H rfl (fun w' H => r_lss rfl rfl) ?_
                            refine tk (i := 32) rfl (by kernel_rfl) rfl H (fun w' H => r_pkF (v := .bool _) rfl rfl) ?_
                            refine tk (i := 33) rfl (by kernel_rfl) rfl H (fun w' H => r_mv (v := .bool _) rfl) ?_
                            first | refine spad (t := 100) rfl (fun hg10 => ?_) (fun hg10 => ?_) | refine spa (t := 100) rfl (fun hg10 => ?_) (fun hg10 => ?_)   -- guard 10
                            · refine tkn (i := 34) rfl (by kernel_rfl) rfl H rfl ?_
                              refine tkn (i := 35) rfl (by kernel_rfl) rfl H rfl ?_
                              refine tkn (i := 36) rfl (by kernel_rfl) rfl H rfl ?_
                              refine tk (i := 37) rfl (by kernel_rfl) rfl H (fun w' H => r_pkT (v := .bool _) rfl rfl) ?_
                              refine tk (i := 38) rfl (by kernel_rfl) rfl H (fun w' H => r_mv (v := .bool _) rfl) ?_
                              refine tkn (i := 39) rfl (by kernel_rfl) rfl H rfl ?_
                              refine tkn (i := 40) rfl (by kernel_rfl) rfl H rfl ?_
                              refine tkn (i := 41) rfl (by kernel_rfl) rfl H rfl ?_
                              refine tknU (i := 42) rfl (by kernel_rfl) rfl H rfl ?_
                              refine tknU (i := 43) rfl (by kernel_rfl) rfl H rfl ?_
                              refine tknU (i := 44) rfl (by kernel_rfl) rfl H rfl ?_
                              refine tknU (i := 45) rfl (by kernel_rfl) rfl H rfl ?_
                              refine tknU (i := 46) rfl (by kernel_rfl) rfl H rfl ?_
                              refine tknU (i := 47) rfl (by kernel_rfl) rfl H rfl ?_
                              refine tknU (i := 48) rfl (by kernel_rfl) rfl H rfl ?_
                              refine tknU (i := 49) rfl (by kernel_rfl) rfl H rfl ?_
                              refine tknU (i := 50) rfl (by kernel_rfl) rfl H rfl ?_
                              refine tknU (i := 51) rfl (by kernel_rfl) rfl H rfl ?_
                              refine tkn (i := 52) rfl (by kernel_rfl) rfl H rfl ?_
                              refine tk (i := 53) rfl (by kernel_rfl) rfl H (fun w' H => r_pkT (v := .bool _) rfl rfl) ?_
                              refine da (by kernel_rfl) ?_
                              refine then_n ?_
                              refine cbT rfl rfl ?_
                              refine sq ?_
                              refine rg ?_
                              refine asg (v := .bool _) rfl rfl ?_
                              refine nl ?_
                              refine then_n ?_
                              refine rt ?_
                              refine then_r ?_
                              refine in_r ?_
                              refine then_r ?_
                              refine loop_r ?_
                              refine in_r ?_
                              refine then_r ?_
                              refine fin_r ?_
                              exact ⟨false, rfl, H.fr, fun h => by exact Bool.noConfusion h⟩
                            · first | refine tkg (i := 34) rfl (by kernel_rfl) rfl H rfl (fun w' H => r_fa rfl fo49_0) ?_ | refine tkg (i := 34) rfl (by kernel_rfl) rfl H rfl (fun w' H => r_faG rfl fo49_0) ?_
                              first | refine tkg (i := 35) rfl (by kernel_rfl) rfl H rfl (fun w' H => r_ld H rfl sc3 rfl) ?_ | refine tkg (i := 35) rfl (by kernel_rfl) rfl H rfl (fun w' H => r_lc rfl (by first | assumption | exact H.fr.cell (by assumption) (by simp)) sc3) ?_ | refine tkg (i := 35) rfl (by kernel_rfl) rfl H rfl (fun w' H => r_ld H rfl sc3 (by assumption)) ?_
                              refine tkg (i := 36) rfl (by kernel_rfl) rfl H rfl (fun w' H => r_gtr rfl rfl) ?_
                              refine tk (i := 37) rfl (by kernel_rfl) rfl H (fun w' H => r_pkF (v := .bool _) rfl rfl) ?_
                              refine tk (i := 38) rfl (by kernel_rfl) rfl H (fun w' H => r_mv (v := .bool _) rfl) ?_
                              first | refine spad (t := 105) rfl (fun hg11 => ?_) (fun hg11 => ?_) | refine spa (t := 105) rfl (fun hg11 => ?_) (fun hg11 => ?_)   -- guard 11
                              · refine tkn (i := 39) rfl (by kernel_rfl) rfl H rfl ?_
                                refine tkn (i := 40) rfl (by kernel_rfl) rfl H rfl ?_
                                refine tkn (i := 41) rfl (by kernel_rfl) rfl H rfl ?_
                                refine tknU (i := 42) rfl (by kernel_rfl) rfl H rfl ?_
                                refine tknU (i := 43) rfl (by kernel_rfl) rfl H rfl ?_
                                refine tknU (i := 44) rfl (by kernel_rfl) rfl H rfl ?_
                                refine tknU (i := 45) rfl (by kernel_rfl) rfl H rfl ?_
                                refine tknU (i := 46) rfl (by kernel_rfl) rfl H rfl ?_
                                refine tknU (i := 47) rfl (by kernel_rfl) rfl H rfl ?_
                                refine tknU (i := 48) rfl (by kernel_rfl) rfl H rfl ?_
                                refine tknU (i := 49) rfl (by kernel_rfl) rfl H rfl ?_
                                refine tknU (i := 50) rfl (by kernel_rfl) rfl H rfl ?_
                                refine tknU (i := 51) rfl (by kernel_rfl) rfl H rfl ?_
                                refine tkn (i := 52) rfl (by kernel_rfl) rfl H rfl ?_
                                refine tk (i := 53) rfl (by kernel_rfl) rfl H (fun w' H => r_pkT (v := .bool _) rfl rfl) ?_
                                refine da (by kernel_rfl) ?_
                                refine then_n ?_
                                refine cbT rfl rfl ?_
                                refine sq ?_
                                refine rg ?_
                                refine asg (v := .bool _) rfl rfl ?_
                                refine nl ?_
                                refine then_n ?_
                                refine rt ?_
                                refine then_r ?_
                                refine in_r ?_
                                refine then_r ?_
                                refine loop_r ?_
                                refine in_r ?_
                                refine then_r ?_
                                refine fin_r ?_
                                exact ⟨false, rfl, H.fr, fun h => by exact Bool.noConfusion h⟩
                              · refine tkg (i := 39) rfl (by kernel_rfl) rfl H rfl (fun w' H => r_mv (v := .int .i64 _) rfl) ?_
                                refine tkg (i := 40) rfl (by kernel_rfl) rfl H rfl (fun w' H => r_gtr rfl rfl) ?_
                                refine tkg (i := 41) rfl (by kernel_rfl) rfl H rfl (fun w' H => r_mv (v := .bool _) rfl) ?_
                                first | refine spad (t := 108) rfl (fun hg12 => ?_) (fun hg12 => ?_) | refine spa (t := 108) rfl (fun hg12 => ?_) (fun hg12 => ?_)   -- guard 12
                                · obtain ⟨x9, hp9⟩ : ∃ q, ps[i - 1]? = some q := ⟨_, List.getElem?_eq_getElem (by omega)⟩
                                  first | refine tkg (i := 42) rfl (by kernel_rfl) rfl H rfl (fun w' H => r_fa rfl fo49_0) ?_ | refine tkg (i := 42) rfl (by kernel_rfl) rfl H rfl (fun w' H => r_faG rfl fo49_0) ?_
                                  first | refine tkg (i := 43) rfl (by kernel_rfl) rfl H rfl (fun w' H => r_ld H rfl sc3 rfl) ?_ | refine tkg (i := 43) rfl (by kernel_rfl) rfl H rfl (fun w' H => r_lc rfl (by first | assumption | exact H.fr.cell (by assumption) (by simp)) sc3) ?_ | refine tkg (i := 43) rfl (by kernel_rfl) rfl H rfl (fun w' H => r_ld H rfl sc3 (by assumption)) ?_
                                  first | refine tkg (i := 44) rfl (by kernel_rfl) rfl H rfl (fun w' H => r_fa rfl fo24_0) ?_ | refine tkg (i := 44) rfl (by kernel_rfl) rfl H rfl (fun w' H => r_faG rfl fo24_0) ?_
                                  first | refine tkg (i := 45) rfl (by kernel_rfl) rfl H rfl (fun w' H => r_ld H rfl sc22 rfl) ?_ | refine tkg (i := 45) rfl (by kernel_rfl) rfl H rfl (fun w' H => r_lc rfl (by first | assumption | exact H.fr.cell (by assumption) (by simp)) sc22) ?_ | refine tkg (i := 45) rfl (by kernel_rfl) rfl H rfl (fun w' H => r_ld H rfl sc22 (by assumption)) ?_
                                  refine tkg (i := 46) rfl (by kernel_rfl) rfl H rfl (fun w' H => r_mv (v := .int .i64 _) rfl) ?_
                                  refine tkg (i := 47) rfl (by kernel_rfl) rfl H rfl (fun w' H => r_sub rfl rfl (by first | exact w_i64 (by omega) | exact w_i64 (rng_i64 _) | rfl)) ?_
                                  refine tkg (i := 48) rfl (by kernel_rfl) rfl H rfl (fun w' H => r_iBN (ad.add ((i - 1) * 8)) rfl rfl Tryd.underlying22 sz49_8 (by omega) (congrArg (fun k => ad.add (k * 8)) (by omega))) ?_
                                  refine tkg (i := 49) rfl (by kernel_rfl) rfl H rfl (fun w' H => r_faG rfl fo49_0) ?_
                                  refine tkg (i := 50) rfl (by kernel_rfl) rfl H rfl (fun w' H => r_lc (v := .int .i64 x9.ix) rfl (H.fr.cell (hq.elem hp9 0 _ rfl) (by simp)) sc3) ?_
                                  refine tkg (i := 51) rfl (by kernel_rfl) rfl H rfl (fun w' H => r_leq rfl rfl) ?_
                                  refine tkg (i := 52) rfl (by kernel_rfl) rfl H rfl (fun w' H => r_pkT (v := .bool _) rfl rfl) ?_
                                  refine tk (i := 53) rfl (by kernel_rfl) rfl H (fun w' H => r_pkF (v := .bool _) rfl rfl) ?_
                                  refine da (by kernel_rfl) ?_
                                  refine then_n ?_
                                  first | refine cd rfl (fun hc3 => ?_) (fun hc3 => ?_) | refine cn rfl (fun hc3 => ?_) (fun hc3 => ?_)   -- test 3
                                  · refine sq ?_
                                    refine rg ?_
                                    refine asg (v := .bool _) rfl rfl ?_
                                    refine nl ?_
                                    refine then_n ?_
                                    refine rt ?_
                                    refine then_r ?_
                                    refine in_r ?_
                                    refine then_r ?_
                                    refine loop_r ?_
                                    refine in_r ?_
                                    refine then_r ?_
                                    refine fin_r ?_
                                    exact ⟨false, rfl, H.fr, fun h => by exact Bool.noConfusion h⟩
                                  · refine sk ?_
                                    refine then_n ?_
                                    exact ⟨(), ⟨⟨by simpa using hg4, by simpa using hg5, hg6, hg7, by simpa using hg8, ⟨by omega, by omega⟩, fun q _ hq9 => by rw [hp9] at hq9; cases hq9; omega⟩, H⟩, (fN _), (by repeat (first | exact Agree.setL rfl Agree.mask | exact Agree.self _ _ | refine Agree.upd rfl ?_ | refine Agree.setL rfl ?_ | refine Agree.mask2 rfl ?_))⟩
                                · refine tkn (i := 42) rfl (by kernel_rfl) rfl H rfl ?_
                                  refine tkn (i := 43) rfl (by kernel_rfl) rfl H rfl ?_
                                  refine tkn (i := 44) rfl (by kernel_rfl) rfl H rfl ?_
                                  refine tkn (i := 45) rfl (by kernel_rfl) rfl H rfl ?_
                                  refine tkn (i := 46) rfl (by kernel_rfl) rfl H rfl ?_
                                  refine tkn (i := 47) rfl (by kernel_rfl) rfl H rfl ?_
                                  refine tkn (i := 48) rfl (by kernel_rfl) rfl H rfl ?_
                                  refine tkn (i := 49) rfl (by kernel_rfl) rfl H rfl ?_
                                  refine tkn (i := 50) rfl (by kernel_rfl) rfl H rfl ?_
                                  refine tkn (i := 51) rfl (by kernel_rfl) rfl H rfl ?_
                                  refine tkg (i := 52) rfl (by kernel_rfl) rfl H rfl (fun w' H => r_pkF (v := .bool _) rfl rfl) ?_
                                  refine tk (i := 53) rfl (by kernel_rfl) rfl H (fun w' H => r_pkF (v := .bool _) rfl rfl) ?_
                                  refine da (by kernel_rfl) ?_
                                  refine then_n ?_
                                  refine cbF rfl rfl ?_
                                  refine sk ?_
                                  refine then_n ?_
                                  exact ⟨(), ⟨⟨by simpa using hg4, by simpa using hg5, hg6, hg7, by simpa using hg8, ⟨by omega, by omega⟩, fun q h0 _ => by omega⟩, H⟩, (fN _), (by repeat (first | exact Agree.setL rfl Agree.mask | exact Agree.self _ _ | refine Agree.upd rfl ?_ | refine Agree.setL rfl ?_ | refine Agree.mask2 rfl ?_))⟩
              · rintro _u ρx w15 ⟨⟨q1, q2, q3, q4, q5, q6, q7⟩, H⟩
                refine sq ?_
                refine sq ?_
                refine rg ?_
                first | refine fa rfl fo49_5 rfl ?_ | refine faG rfl fo49_5 rfl ?_
                first | refine ld H rfl sc9 rfl rfl ?_ | refine lc rfl (by first | assumption | exact H.fr.cell (by assumption) (by simp)) sc9 rfl ?_ | refine ld H rfl sc9 (by assumption) rfl ?_
                refine rngS H rfl Tryd.underlying9 rfl ?_
                clear H; intro b6 w16 hb6 H _
                refine nl ?_
                refine then_n ?_
                refine bk ?_
                refine lpM (α := Nat) [4, 15, 124, 125, 126, 127, 128, 129, 130, 131, 132] (fun q => []) (fun q w' => q ≤ p.nm.length ∧ (okN (p.nm.drop q) → okN p.nm) ∧ SH w [] w' [⟨b6, .stringIter (str p.nm) q, true⟩, ⟨b5, .cells (Bs (gB p.gu)).toArray 45 (0, 0), true⟩, ⟨b4, .cells (Bs (gB p.ty)).toArray 45 (0, 0), true⟩, ⟨b3, .cells p.cells.toArray 49 (0, 0), true⟩, ⟨b2, .cells (Bs (gB g)).toArray 45 (0, 0), true⟩, ⟨b1, .cells (gtCells (some ad) m c 512 g pr rc).toArray 24 (0, 0), true⟩]) (fun q => p.nm.length - q) 0 ?_ (fN _) ?_   -- loop 2
                · exact ⟨by omega, id, H⟩
                · rintro q ρx w17 ⟨hqq, hkk, H⟩
                  refine sq ?_
                  refine rg ?_
                  refine nxt H rfl rfl ?_
                  clear H; intro w18 H _
                  refine xt rfl (next0 _ _) rfl ?_
                  refine nl ?_
                  refine then_n ?_
                  refine sq ?_
                  first | refine cd rfl (fun hc4 => ?_) (fun hc4 => ?_) | refine cn rfl (fun hc4 => ?_) (fun hc4 => ?_)   -- test 4
                  · have hlt : q < p.nm.length := by assumption
                    rw [nextP_of hlt] at H
                    obtain ⟨r1, r2, r3, r4, r5, r6, _⟩ := rune_at hlt
                    rw [List.length_drop] at r2
                    refine sk ?_
                    refine then_n ?_
                    refine bk ?_
                    refine sq ?_
                    refine rg ?_
                    refine xt rfl (next2 (by omega)) rfl ?_
                    refine asg (v := .int .i32 _) rfl rfl ?_
                    refine nl ?_
                    refine then_n ?_
                    refine sq ?_
                    refine rg ?_
                    refine mv (v := .int .i32 _) rfl rfl ?_
                    refine eql rfl rfl rfl ?_
                    refine mv (v := .bool _) rfl rfl ?_
                    first | refine spd (t := 129) rfl (fun hg13 => ?_) (fun hg13 => ?_) | refine sp (t := 129) rfl (fun hg13 => ?_) (fun hg13 => ?_)   -- guard 13
                    · refine gn rfl rfl ?_
                      refine gn rfl rfl ?_
                      refine pkT (v := .bool _) rfl rfl rfl ?_
                      refine nl ?_
                      refine then_n ?_
                      refine cbT rfl rfl ?_
                      refine sq ?_
                      refine rg ?_
                      refine asg (v := .bool _) rfl rfl ?_
                      refine nl ?_
                      refine then_n ?_
                      refine rt ?_
                      refine in_r ?_
                      refine loop_r ?_
                      refine in_r ?_
                      refine then_r ?_
                      refine in_r ?_
                      refine then_r ?_
                      refine loop_r ?_
                      refine in_r ?_
                      refine then_r ?_
                      refine fin_r ?_
                      exact ⟨false, rfl, H.fr, fun h => by exact Bool.noConfusion h⟩
                    · refine gy rfl ?_
                      refine mv (v := .int .i32 _) rfl rfl ?_
                      refine gy rfl ?_
                      refine eql rfl rfl rfl ?_
                      refine pkF (v := .bool _) rfl rfl rfl ?_
                      refine nl ?_
                      refine then_n ?_
                      first | refine cd rfl (fun hc5 => ?_) (fun hc5 => ?_) | refine cn rfl (fun hc5 => ?_) (fun hc5 => ?_)   -- test 5
                      · refine sq ?_
                        refine rg ?_
                        refine asg (v := .bool _) rfl rfl ?_
                        refine nl ?_
                        refine then_n ?_
                        refine rt ?_
                        refine in_r ?_
                        refine loop_r ?_
                        refine in_r ?_
                        refine then_r ?_
                        refine in_r ?_
                        refine then_r ?_
                        refine loop_r ?_
                        refine in_r ?_
                        refine then_r ?_
                        refine fin_r ?_
                        exact ⟨false, rfl, H.fr, fun h => by exact Bool.noConfusion h⟩
                      · refine sk ?_
                        refine in_n ?_
                        refine loop_n ?_
                        exact ⟨q + (rune1 (p.nm.drop q)).2, (by (try dsimp only); omega), ⟨by omega, fun h => hkk (okN_step hlt (by omega) (by omega) h), H⟩, (fN _), (by repeat (first | exact Agree.setL rfl Agree.mask | exact Agree.self _ _ | refine Agree.upd rfl ?_ | refine Agree.setL rfl ?_ | refine Agree.mask2 rfl ?_))⟩
                  · have hnm := okN_end (by assumption) hkk
                    rw [nextP_end (by assumption)] at H
                    refine ex ?_
                    refine then_e ?_
                    refine loop_e ?_
                    refine in_hit rfl ?_
                    refine then_n ?_
                    refine sq ?_
                    refine sq ?_
                    refine rg ?_
                    first | refine fa rfl fo49_1 rfl ?_ | refine faG rfl fo49_1 rfl ?_
                    first | refine ld H rfl sc28 rfl rfl ?_ | refine lc rfl (by first | assumption | exact H.fr.cell (by assumption) (by simp)) sc28 rfl ?_ | refine ld H rfl sc28 (by assumption) rfl ?_
                    refine mv (v := .int .u64 _) rfl rfl ?_
                    refine add rfl rfl (by first | exact w_u64 (by omega) | exact w_u64 (rng_u64 _) | exact m_u64 _) rfl ?_
                    refine lss rfl rfl rfl ?_
                    refine mv (v := .bool _) rfl rfl ?_
                    first | refine spd (t := 138) rfl (fun hg14 => ?_) (fun hg14 => ?_) | refine sp (t := 138) rfl (fun hg14 => ?_) (fun hg14 => ?_)   -- guard 14
                    · refine gn rfl rfl ?_
                      refine gn rfl rfl ?_
                      refine gn rfl rfl ?_
                      refine gn rfl rfl ?_
                      refine gn rfl rfl ?_
                      refine pkT (v := .bool _) rfl rfl rfl ?_
                      refine mv (v := .bool _) rfl rfl ?_
                      refine gn rfl rfl ?_
                      refine gn rfl rfl ?_
                      refine gn rfl rfl ?_
                      refine gn rfl rfl ?_
                      refine gn rfl rfl ?_
                      refine gn rfl rfl ?_
                      refine gn rfl rfl ?_
                      refine pkT (v := .bool _) rfl rfl rfl ?_
                      refine mv (v := .bool _) rfl rfl ?_
                      refine gn rfl rfl ?_
                      refine gn rfl rfl ?_
                      refine gn rfl rfl ?_
                      refine gn rfl rfl ?_
                      refine gn rfl rfl ?_
                      refine gn rfl rfl ?_
                      refine gn rfl rfl ?_
                      refine gn rfl rfl ?_
                      refine gn rfl rfl ?_
                      refine gn rfl rfl ?_
                      refine gn rfl rfl ?_
                      refine gn rfl rfl ?_
                      refine gn rfl rfl ?_
                      refine pkT (v := .bool _) rfl rfl rfl ?_
                      refine nl ?_
                      refine then_n ?_
                      refine cbT rfl rfl ?_
                      refine sq ?_
                      refine rg ?_
                      refine asg (v := .bool _) rfl rfl ?_
                      refine nl ?_
                      refine then_n ?_
                      refine rt ?_
                      refine then_r ?_
                      refine in_r ?_
                      refine then_r ?_
                      refine loop_r ?_
                      refine in_r ?_
                      refine then_r ?_
                      refine fin_r ?_
                      exact ⟨false, rfl, H.fr, fun h => by exact Bool.noConfusion h⟩
                    · refine gy rfl ?_
                      first | refine fa rfl fo49_2 rfl ?_ | refine faG rfl fo49_2 rfl ?_
                      refine gy rfl ?_
                      first | refine ld H rfl sc28 rfl rfl ?_ | refine lc rfl (by first | assumption | exact H.fr.cell (by assumption) (by simp)) sc28 rfl ?_ | refine ld H rfl sc28 (by assumption) rfl ?_
                      refine gy rfl ?_
                      first | refine fa rfl fo49_1 rfl ?_ | refine faG rfl fo49_1 rfl ?_
                      refine gy rfl ?_
                      first | refine ld H rfl sc28 rfl rfl ?_ | refine lc rfl (by first | assumption | exact H.fr.cell (by assumption) (by simp)) sc28 rfl ?_ | refine ld H rfl sc28 (by assumption) rfl ?_
                      refine gy rfl ?_
                      refine lss rfl rfl rfl ?_
                      refine pkF (v := .bool _) rfl rfl rfl ?_
                      refine mv (v := .bool _) rfl rfl ?_
                      first | refine spd (t := 145) rfl (fun hg15 => ?_) (fun hg15 => ?_) | refine sp (t := 145) rfl (fun hg15 => ?_) (fun hg15 => ?_)   -- guard 15
                      · refine gn rfl rfl ?_
                        refine gn rfl rfl ?_
                        refine gn rfl rfl ?_
                        refine gn rfl rfl ?_
                        refine gn rfl rfl ?_
                        refine gn rfl rfl ?_
                        refine gn rfl rfl ?_
                        refine pkT (v := .bool _) rfl rfl rfl ?_
                        refine mv (v := .bool _) rfl rfl ?_
                        refine gn rfl rfl ?_
                        refine gn rfl rfl ?_
                        refine gn rfl rfl ?_
                        refine gn rfl rfl ?_
                        refine gn rfl rfl ?_
                        refine gn rfl rfl ?_
                        refine gn rfl rfl ?_
                        refine gn rfl rfl ?_
                        refine gn rfl rfl ?_
                        refine gn rfl rfl ?_
                        refine gn rfl rfl ?_
                        refine gn rfl rfl ?_
                        refine gn rfl rfl ?_
                        refine pkT (v := .bool _) rfl rfl rfl ?_
                        refine nl ?_
                        refine then_n ?_
                        refine cbT rfl rfl ?_
                        refine sq ?_
                        refine rg ?_
                        refine asg (v := .bool _) rfl rfl ?_
                        refine nl ?_
                        refine then_n ?_
                        refine rt ?_
                        refine then_r ?_
                        refine in_r ?_
                        refine then_r ?_
                        refine loop_r ?_
                        refine in_r ?_
                        refine then_r ?_
                        refine fin_r ?_
                        exact ⟨false, rfl, H.fr, fun h => by exact Bool.noConfusion h⟩
                      · refine gy rfl ?_
                        first | refine fa rfl fo49_2 rfl ?_ | refine faG rfl fo49_2 rfl ?_
                        refine gy rfl ?_
                        first | refine ld H rfl sc28 rfl rfl ?_ | refine lc rfl (by first | assumption | exact H.fr.cell (by assumption) (by simp)) sc28 rfl ?_ | refine ld H rfl sc28 (by assumption) rfl ?_
                        refine gy rfl ?_
                        refine mv (v := .int .u64 _) rfl rfl ?_
                        refine gy rfl ?_
                        refine sub rfl rfl (by first | exact w_u64 (by omega) | exact w_u64 (rng_u64 _) | exact m_u64 _) rfl ?_
                        refine gy rfl ?_
                        refine mv (v := .int .u64 _) rfl rfl ?_
                        refine gy rfl ?_
                        refine sub rfl rfl (by first | exact w_u64 (by omega) | exact w_u64 (rng_u64 _) | exact m_u64 _) rfl ?_
                        refine gy rfl ?_
                        refine gtr rfl rfl rfl ?_
                        refine pkF (v := .bool _) rfl rfl rfl ?_
                        refine mv (v := .bool _) rfl rfl ?_
                        first | refine spd (t := 154) rfl (fun hg16 => ?_) (fun hg16 => ?_) | refine sp (t := 154) rfl (fun hg16 => ?_) (fun hg16 => ?_)   -- guard 16
                        · refine gn rfl rfl ?_
                          refine gn rfl rfl ?_
                          refine gn rfl rfl ?_
                          refine gn rfl rfl ?_
                          refine gn rfl rfl ?_
                          refine gn rfl rfl ?_
                          refine gn rfl rfl ?_
                          refine gn rfl rfl ?_
                          refine gn rfl rfl ?_
                          refine gn rfl rfl ?_
                          refine gn rfl rfl ?_
                          refine gn rfl rfl ?_
                          refine gn rfl rfl ?_
                          refine pkT (v := .bool _) rfl rfl rfl ?_
                          refine nl ?_
                          refine then_n ?_
                          refine cbT rfl rfl ?_
                          refine sq ?_
                          refine rg ?_
                          refine asg (v := .bool _) rfl rfl ?_
                          refine nl ?_
                          refine then_n ?_
                          refine rt ?_
                          refine then_r ?_
                          refine in_r ?_
                          refine then_r ?_
                          refine loop_r ?_
                          refine in_r ?_
                          refine then_r ?_
                          refine fin_r ?_
                          exact ⟨false, rfl, H.fr, fun h => by exact Bool.noConfusion h⟩
                        · refine gy rfl ?_
                          first | refine fa rfl fo49_3 rfl ?_ | refine faG rfl fo49_3 rfl ?_
                          refine gy rfl ?_
                          first | refine ld H rfl sc28 rfl rfl ?_ | refine lc rfl (by first | assumption | exact H.fr.cell (by assumption) (by simp)) sc28 rfl ?_ | refine ld H rfl sc28 (by assumption) rfl ?_
                          refine gy rfl ?_
                          first | refine fa rfl fo49_2 rfl ?_ | refine faG rfl fo49_2 rfl ?_
                          refine gy rfl ?_
                          first | refine ld H rfl sc28 rfl rfl ?_ | refine lc rfl (by first | assumption | exact H.fr.cell (by assumption) (by simp)) sc28 rfl ?_ | refine ld H rfl sc28 (by assumption) rfl ?_
                          refine gy rfl ?_
                          first | refine fa rfl fo49_1 rfl ?_ | refine faG rfl fo49_1 rfl ?_
                          refine gy rfl ?_
                          first | refine ld H rfl sc28 rfl rfl ?_ | refine lc rfl (by first | assumption | exact H.fr.cell (by assumption) (by simp)) sc28 rfl ?_ | refine ld H rfl sc28 (by assumption) rfl ?_
                          refine gy rfl ?_
                          refine sub rfl rfl (by first | exact w_u64 (by omega) | exact w_u64 (rng_u64 _) | exact m_u64 _) rfl ?_
                          refine gy rfl ?_
                          refine add rfl rfl (by first | exact w_u64 (by omega) | exact w_u64 (rng_u64 _) | exact m_u64 _) rfl ?_
                          refine gy rfl ?_
                          first | refine fa rfl fo24_1 rfl ?_ | refine faG rfl fo24_1 rfl ?_
                          refine gy rfl ?_
                          first | refine ld H rfl sc3 rfl rfl ?_ | refine lc rfl (by first | assumption | exact H.fr.cell (by assumption) (by simp)) sc3 rfl ?_ | refine ld H rfl sc3 (by assumption) rfl ?_
                          refine gy rfl ?_
                          refine cvi rfl rfl Tryd.underlying28 (by first | exact w_u64 (by omega) | exact w_u64 (rng_u64 _) | exact m_u64 _) rfl ?_
                          refine gy rfl ?_
                          refine mul rfl rfl (by first | exact w_u64 (by omega) | exact w_u64 (rng_u64 _) | exact m_u64 _) rfl ?_
                          refine gy rfl ?_
                          refine neq rfl rfl rfl ?_
                          refine pkF (v := .bool _) rfl rfl rfl ?_
                          refine nl ?_
                          refine then_n ?_
                          first | refine cd rfl (fun hc6 => ?_) (fun hc6 => ?_) | refine cn rfl (fun hc6 => ?_) (fun hc6 => ?_)   -- test 6
                          · refine sq ?_
                            refine rg ?_
                            refine asg (v := .bool _) rfl rfl ?_
                            refine nl ?_
                            refine then_n ?_
                            refine rt ?_
                            refine then_r ?_
                            refine in_r ?_
                            refine then_r ?_
                            refine loop_r ?_
                            refine in_r ?_
                            refine then_r ?_
                            refine fin_r ?_
                            exact ⟨false, rfl, H.fr, fun h => by exact Bool.noConfusion h⟩
                          · refine sk ?_
                            refine then_n ?_
                            refine sq ?_
                            refine rg ?_
                            first | refine fa rfl fo24_0 rfl ?_ | refine faG rfl fo24_0 rfl ?_
                            first | refine ld H rfl sc22 rfl rfl ?_ | refine lc rfl (by first | assumption | exact H.fr.cell (by assumption) (by simp)) sc22 rfl ?_ | refine ld H rfl sc22 (by assumption) rfl ?_
                            refine mv (v := .int .i64 _) rfl rfl ?_
                            refine slh rfl rfl Tryd.underlying22 sz49_8 (by first | trivial | omega | (simp; omega)) rfl ?_
                            refine lnS rfl Tryd.underlying22 rfl ?_
                            refine mv (v := .int .i64 _) rfl rfl ?_
                            refine nl ?_
                            refine then_n ?_
                            refine bk ?_
                            refine lpM (α := Nat) [4, 17, 174, 175, 176, 177, 178, 179, 180, 181, 182, 183, 184, 185, 186, 187, 188, 189, 190, 191, 192, 193, 194, 195, 196, 197] (fun j => [(174, .int .i64 (j : Int))]) (fun j w' => j ≤ i ∧ SH w [] w' [⟨b3, .cells p.cells.toArray 49 (0, 0), true⟩, ⟨b2, .cells (Bs (gB g)).toArray 45 (0, 0), true⟩, ⟨b1, .cells (gtCells (some ad) m c 512 g pr rc).toArray 24 (0, 0), true⟩]) (fun j => i - j) 0 ?_ (fC (by first | rfl | exact congrArg (Value.int _) (by first | omega | assumption | (symm; assumption) | (simp; done) | (simp; omega)) | exact congrArg (fun n => Value.slice _ n _) (by first | omega | (simp; done) | (simp; omega))) (fN _)) ?_   -- loop 3
                            · exact ⟨by omega, H.sub (by repeat (first | exact List.Sublist.refl _ | exact List.nil_sublist _ | apply List.Sublist.cons_cons | apply List.Sublist.cons))⟩
                            · rintro j ρx w19 ⟨hj, H⟩
                              refine sq ?_
                              refine rg ?_
                              refine lss rfl rfl rfl ?_
                              refine nl ?_
                              refine then_n ?_
                              refine sq ?_
                              first | refine cd rfl (fun hc7 => ?_) (fun hc7 => ?_) | refine cn rfl (fun hc7 => ?_) (fun hc7 => ?_)   -- test 7
                              · obtain ⟨y9, hy9⟩ : ∃ q, ps[j]? = some q := ⟨_, List.getElem?_eq_getElem (by omega)⟩
                                refine sk ?_
                                refine then_n ?_
                                refine sq ?_
                                refine bk ?_
                                refine sq ?_
                                refine rg ?_
                                refine iBN (ad.add (j * 8)) rfl rfl Tryd.underlying22 sz49_8 (by omega) (by simp) rfl ?_
                                refine lw (vs := y9.cells) rfl ag49_8 rfl (fun j v h => H.fr.cell (hq.elem hy9 j v h) (by simp)) rfl ?_
                                refine al H ze49 rfl ?_
                                clear H; intro b7 w20 hb7 H _
                                refine sa (cs' := y9.cells) H rfl rfl ag49_8 rfl rfl (by decide) (by omega) rfl ?_
                                clear H; intro w36 H _
                                refine nl ?_
                                refine then_n ?_
                                refine sq ?_
                                refine rg ?_
                                first | refine fa rfl fo49_1 rfl ?_ | refine faG rfl fo49_1 rfl ?_
                                first | refine ld H rfl sc28 rfl rfl ?_ | refine lc rfl (by first | assumption | exact H.fr.cell (by assumption) (by simp)) sc28 rfl ?_ | refine ld H rfl sc28 (by assumption) rfl ?_
                                first | refine fa rfl fo49_2 rfl ?_ | refine faG rfl fo49_2 rfl ?_
                                first | refine ld H rfl sc28 rfl rfl ?_ | refine lc rfl (by first | assumption | exact H.fr.cell (by assumption) (by simp)) sc28 rfl ?_ | refine ld H rfl sc28 (by assumption) rfl ?_
                                refine leq rfl rfl rfl ?_
                                refine mv (v := .bool _) rfl rfl ?_
                                first | refine spd (t := 183) rfl (fun hg17 => ?_) (fun hg17 => ?_) | refine sp (t := 183) rfl (fun hg17 => ?_) (fun hg17 => ?_)   -- guard 17
                                · refine gy rfl ?_
                                  first | refine fa rfl fo49_1 rfl ?_ | refine faG rfl fo49_1 rfl ?_
                                  refine gy rfl ?_
                                  first | refine ld H rfl sc28 rfl rfl ?_ | refine lc rfl (by first | assumption | exact H.fr.cell (by assumption) (by simp)) sc28 rfl ?_ | refine ld H rfl sc28 (by assumption) rfl ?_
                                  refine gy rfl ?_
                                  first | refine fa rfl fo49_2 rfl ?_ | refine faG rfl fo49_2 rfl ?_
                                  refine gy rfl ?_
                                  first | refine ld H rfl sc28 rfl rfl ?_ | refine lc rfl (by first | assumption | exact H.fr.cell (by assumption) (by simp)) sc28 rfl ?_ | refine ld H rfl sc28 (by assumption) rfl ?_
                                  refine gy rfl ?_
                                  refine leq rfl rfl rfl ?_
                                  refine pkT (v := .bool _) rfl rfl rfl ?_
                                  refine mv (v := .bool _) rfl rfl ?_
                                  first | refine spd (t := 190) rfl (fun hg18 => ?_) (fun hg18 => ?_) | refine sp (t := 190) rfl (fun hg18 => ?_) (fun hg18 => ?_)   -- guard 18
                                  · refine gn rfl rfl ?_
                                    refine gn rfl rfl ?_
                                    refine gn rfl rfl ?_
                                    refine gn rfl rfl ?_
                                    refine gn rfl rfl ?_
                                    refine pkT (v := .bool _) rfl rfl rfl ?_
                                    refine nl ?_
                                    refine then_n ?_
                                    refine cbT rfl rfl ?_
                                    refine sq ?_
                                    refine rg ?_
                                    refine asg (v := .bool _) rfl rfl ?_
                                    refine nl ?_
                                    refine then_n ?_
                                    refine rt ?_
                                    refine in_r ?_
                                    refine then_r ?_
                                    refine loop_r ?_
                                    refine in_r ?_
                                    refine in_r ?_
                                    refine then_r ?_
                                    refine loop_r ?_
                                    refine in_r ?_
                                    refine then_r ?_
                                    refine fin_r ?_
                                    exact ⟨false, rfl, H.fr, fun h => by exact Bool.noConfusion h⟩
                                  · refine gy rfl ?_
                                    first | refine fa rfl fo49_6 rfl ?_ | refine faG rfl fo49_6 rfl ?_
                                    refine gy rfl ?_
                                    first | refine ld H rfl sc9 rfl rfl ?_ | refine lc rfl (by first | assumption | exact H.fr.cell (by assumption) (by simp)) sc9 rfl ?_ | refine ld H rfl sc9 (by assumption) rfl ?_
                                    refine gy rfl ?_
                                    first | refine fa rfl fo49_6 rfl ?_ | refine faG rfl fo49_6 rfl ?_
                                    refine gy rfl ?_
                                    first | refine ld H rfl sc9 rfl rfl ?_ | refine lc rfl (by first | assumption | exact H.fr.cell (by assumption) (by simp)) sc9 rfl ?_ | refine ld H rfl sc9 (by assumption) rfl ?_
                                    refine gy rfl ?_
                                    refine cl ca22 (c_sameGuid _ _ _) rfl ?_
                                    rintro _ w21 ⟨rfl, F⟩
                                    replace H := H.keep F; clear F
                                    refine pkF (v := .bool _) rfl rfl rfl ?_
                                    refine nl ?_
                                    refine then_n ?_
                                    first | refine cd rfl (fun hc8 => ?_) (fun hc8 => ?_) | refine cn rfl (fun hc8 => ?_) (fun hc8 => ?_)   -- test 8
                                    · refine sq ?_
                                      refine rg ?_
                                      refine asg (v := .bool _) rfl rfl ?_
                                      refine nl ?_
                                      refine then_n ?_
                                      refine rt ?_
                                      refine in_r ?_
                                      refine then_r ?_
                                      refine loop_r ?_
                                      refine in_r ?_
                                      refine in_r ?_
                                      refine then_r ?_
                                      refine loop_r ?_
                                      refine in_r ?_
                                      refine then_r ?_
                                      refine fin_r ?_
                                      exact ⟨false, rfl, H.fr, fun h => by exact Bool.noConfusion h⟩
                                    · refine sk ?_
                                      refine in_n ?_
                                      refine then_n ?_
                                      refine rg ?_
                                      refine add rfl rfl (by first | exact w_i64 (by omega) | exact w_i64 (rng_i64 _) | rfl) rfl ?_
                                      refine mv (v := .int .i64 _) rfl rfl ?_
                                      refine nl ?_
                                      refine loop_n ?_
                                      exact ⟨j + 1, (by (try dsimp only); omega), ⟨by omega, H.sub (by repeat (first | exact List.Sublist.refl _ | exact List.nil_sublist _ | apply List.Sublist.cons_cons | apply List.Sublist.cons))⟩, (fC (by first | rfl | exact congrArg (Value.int _) (by first | omega | assumption | (symm; assumption) | (simp; done) | (simp; omega)) | exact congrArg (fun n => Value.slice _ n _) (by first | omega | (simp; done) | (simp; omega))) (fN _)), (by repeat (first | exact Agree.setL rfl Agree.mask | exact Agree.self _ _ | refine Agree.upd rfl ?_ | refine Agree.setL rfl ?_ | refine Agree.mask2 rfl ?_))⟩
                                · refine gn rfl rfl ?_
                                  refine gn rfl rfl ?_
                                  refine gn rfl rfl ?_
                                  refine gn rfl rfl ?_
                                  refine gn rfl rfl ?_
                                  refine pkF (v := .bool _) rfl rfl rfl ?_
                                  refine mv (v := .bool _) rfl rfl ?_
                                  refine gy rfl ?_
                                  first | refine fa rfl fo49_6 rfl ?_ | refine faG rfl fo49_6 rfl ?_
                                  refine gy rfl ?_
                                  first | refine ld H rfl sc9 rfl rfl ?_ | refine lc rfl (by first | assumption | exact H.fr.cell (by assumption) (by simp)) sc9 rfl ?_ | refine ld H rfl sc9 (by assumption) rfl ?_
                                  refine gy rfl ?_
                                  first | refine fa rfl fo49_6 rfl ?_ | refine faG rfl fo49_6 rfl ?_
                                  refine gy rfl ?_
                                  first | refine ld H rfl sc9 rfl rfl ?_ | refine lc rfl (by first | assumption | exact H.fr.cell (by assumption) (by simp)) sc9 rfl ?_ | refine ld H rfl sc9 (by assumption) rfl ?_
                                  refine gy rfl ?_
                                  refine cl ca22 (c_sameGuid _ _ _) rfl ?_
                                  rintro _ w22 ⟨rfl, F⟩
                                  replace H := H.keep F; clear F
                                  refine pkF (v := .bool _) rfl rfl rfl ?_
                                  refine nl ?_
                                  refine then_n ?_
                                  first | refine cd rfl (fun hc9 => ?_) (fun hc9 => ?_) | refine cn rfl (fun hc9 => ?_) (fun hc9 => ?_)   -- test 9
                                  · refine sq ?_
                                    refine rg ?_
                                    refine asg (v := .bool _) rfl rfl ?_
                                    refine nl ?_
                                    refine then_n ?_
                                    refine rt ?_
                                    refine in_r ?_
                                    refine then_r ?_
                                    refine loop_r ?_
                                    refine in_r ?_
                                    refine in_r ?_
                                    refine then_r ?_
                                    refine loop_r ?_
                                    refine in_r ?_
                                    refine then_r ?_
                                    refine fin_r ?_
                                    exact ⟨false, rfl, H.fr, fun h => by exact Bool.noConfusion h⟩
                                  · refine sk ?_
                                    refine in_n ?_
                                    refine then_n ?_
                                    refine rg ?_
                                    refine add rfl rfl (by first | exact w_i64 (by omega) | exact w_i64 (rng_i64 _) | rfl) rfl ?_
                                    refine mv (v := .int .i64 _) rfl rfl ?_
                                    refine nl ?_
                                    refine loop_n ?_
                                    exact ⟨j + 1, (by (try dsimp only); omega), ⟨by omega, H.sub (by repeat (first | exact List.Sublist.refl _ | exact List.nil_sublist _ | apply List.Sublist.cons_cons | apply List.Sublist.cons))⟩, (fC (by first | rfl | exact congrArg (Value.int _) (by first | omega | assumption | (symm; assumption) | (simp; done) | (simp; omega)) | exact congrArg (fun n => Value.slice _ n _) (by first | omega | (simp; done) | (simp; omega))) (fN _)), (by repeat (first | exact Agree.setL rfl Agree.mask | exact Agree.self _ _ | refine Agree.upd rfl ?_ | refine Agree.setL rfl ?_ | refine Agree.mask2 rfl ?_))⟩
                              · refine ex ?_
                                refine then_e ?_
                                refine loop_e ?_
                                refine in_hit rfl ?_
                                refine in_n ?_
                                refine then_n ?_
                                refine rg ?_
                                refine add rfl rfl (by first | exact w_i64 (by omega) | exact w_i64 (rng_i64 _) | rfl) rfl ?_
                                refine mv (v := .int .i64 _) rfl rfl ?_
                                refine nl ?_
                                refine loop_n ?_
                                exact ⟨i + 1, (by (try dsimp only); omega), ⟨by omega, all_next hs hpi ⟨q1, q2, q3, q4, q5, hnm, q6, by omega, by omega, by omega, by omega⟩, ordTo_next ho hpi q7, H.sub (by repeat (first | exact List.Sublist.refl _ | exact List.nil_sublist _ | apply List.Sublist.cons_cons | apply List.Sublist.cons))⟩, (fC (by first | rfl | exact congrArg (Value.int _) (by first | omega | assumption | (symm; assumption) | (simp; done) | (simp; omega)) | exact congrArg (fun n => Value.slice _ n _) (by first | omega | (simp; done) | (simp; omega))) (fN _)), (by repeat (first | exact Agree.setL rfl Agree.mask | exact Agree.self _ _ | refine Agree.upd rfl ?_ | refine Agree.setL rfl ?_ | refine Agree.mask2 rfl ?_))⟩
            · refine ex ?_
              refine then_e ?_
              refine loop_e ?_
              refine in_hit rfl ?_
              refine then_n ?_
              refine sq ?_
              refine rg ?_
              refine asg (v := .bool _) rfl rfl ?_
              refine nl ?_
              refine then_n ?_
              refine rt ?_
              refine fin_r ?_
              exact ⟨true, rfl, H.fr, fun _ => ⟨by simpa using hg1, by omega, all_mem (by omega) hs, ordTo_all (by omega) ho⟩⟩

end Go.Proofs.YthcaejaaalkglaaDoor.X
/- Walks of functions, printed by a program of this claim. -/
namespace Go.Proofs.YthcaejaaalkglaaDoor.X
set_option linter.unusedVariables false
set_option linter.unusedSimpArgs false
open Go Go.RowKit

namespace P32
theorem ag24_5 : aggB Tryd.prog 24 5 = true := by kernel_rfl
theorem ca10 : callable Tryd.prog 10 = true := by kernel_rfl
theorem ca11 : callable Tryd.prog 11 = true := by kernel_rfl
theorem ca12 : callable Tryd.prog 12 = true := by kernel_rfl
theorem ca13 : callable Tryd.prog 13 = true := by kernel_rfl
theorem ca14 : callable Tryd.prog 14 = true := by kernel_rfl
theorem ca7 : callable Tryd.prog 7 = true := by kernel_rfl
theorem ca8 : callable Tryd.prog 8 = true := by kernel_rfl
theorem ca9 : callable Tryd.prog 9 = true := by kernel_rfl
theorem fo24_1 : fieldOff Tryd.prog 24 1 = some 1 := by kernel_rfl
theorem fo24_3 : fieldOff Tryd.prog 24 3 = some 3 := by kernel_rfl
theorem fo24_4 : fieldOff Tryd.prog 24 4 = some 4 := by kernel_rfl
theorem sc3 : scalarB Tryd.prog 3 = true := by kernel_rfl
theorem sc4 : scalarB Tryd.prog 4 = true := by kernel_rfl
theorem ze24 : zeroL Tryd.prog 24 = some [.slice none 0 0, .int .i64 0, .string ⟨#[]⟩, .bool false, .bool false] := by kernel_rfl

end P32
open P32

set_option maxRecDepth 100000 in
set_option maxHeartbeats 4000000 in
theorem c_FnGptReads (w : World) (D : Option Addr) (m c : Nat) (sec : Int) (g : List UInt8) (pr rc : Bool) (ps : List GP) (hq : RG w D m c ps) (hU : Utf8W w) (x y : Int) (hx : 0 ≤ x ∧ x ≤ 65535) (hy : 0 ≤ y ∧ y ≤ 255) : Calls Tryd.prog 3 #[.agg (gtCells D m c sec g pr rc).toArray, .int .u16 x, .int .u8 y] w (Ret fun v w' => v = .bool true ∧ Fr [] w w') := by
  refine enter (fun ρ => ρ 6) Tryd.func3 rfl rfl rfl (res1 rfl) ?_
  have H := SH.nil w
  have hql := hq.len
  obtain ⟨n, hnn⟩ : ∃ n : Nat, (n : Int) = 80 + x % 200 := ⟨(80 + x % 200).toNat, by omega⟩
  have hn : 80 ≤ n ∧ n ≤ 1000000 := by omega
  refine sq ?_
  refine rg ?_
  refine bx (v := .agg _) H rfl rfl rfl ?_
  clear H; intro b1 w1 hb1 H _
  refine asg (v := .bool _) rfl rfl ?_
  refine nl ?_
  refine then_n ?_
  refine sq ?_
  refine sq ?_
  refine rg ?_
  first | refine la H rfl ag24_5 rfl rfl rfl ?_ | refine lw rfl ag24_5 rfl (by assumption) rfl ?_
  refine cl ca7 (c_fits5 _ D m c sec g pr rc ps (hq.keep H.fr)) rfl ?_
  rintro _ w2 ⟨g5, rfl, g5h, F⟩
  replace H := H.keep F; clear F
  refine unot rfl rfl ?_
  refine nl ?_
  refine then_n ?_
  first | refine cd rfl (fun hc1 => ?_) (fun hc1 => ?_) | refine cn rfl (fun hc1 => ?_) (fun hc1 => ?_)   -- test 1
  · refine sq ?_
    refine rg ?_
    refine asg (v := .bool _) rfl rfl ?_
    refine nl ?_
    refine then_n ?_
    refine rt ?_
    refine then_r ?_
    refine fin_r ?_
    exact ⟨rfl, H.fr⟩
  · have h5 := g5h (by simpa using hc1)
    refine sk ?_
    refine then_n ?_
    refine sq ?_
    refine rg ?_
    refine mv (v := .int .u16 _) rfl rfl ?_
    refine cvi rfl rfl Tryd.underlying3 (by first | exact w_i64 (by omega) | exact w_i64 (rng_i64 _) | rfl) rfl ?_
    refine rem rfl rfl (by omega) (by omega) rfl rfl ?_
    refine add (c := (n : Int)) rfl rfl (by rw [w_i64 (by omega)]; omega) rfl ?_
    refine asg (v := .int .i64 _) rfl rfl ?_
    refine nl ?_
    refine then_n ?_
    refine sq ?_
    refine rg ?_
    refine fa rfl fo24_1 rfl ?_
    refine st (v := .int .i64 _) H rfl rfl sc3 rfl (by show 0 + 1 < 5; decide) (by omega) ?_
    clear H; intro w91 H _
    refine fa rfl fo24_3 rfl ?_
    refine st (v := .bool _) H rfl rfl sc4 rfl (by show 0 + 3 < 5; decide) (by omega) ?_
    clear H; intro w92 H _
    refine nl ?_
    refine then_n ?_
    refine sq ?_
    refine sq ?_
    refine rg ?_
    replace H := sh_cells0 (cs' := gtCells D m c 512 g true rc) H rfl
    refine la (vs := gtCells D m c 512 g true rc) H rfl ag24_5 rfl rfl rfl ?_
    refine mv (v := .int .i64 _) rfl rfl ?_
    refine cvi rfl rfl Tryd.underlying28 (by first | exact w_u64 (by omega) | exact w_u64 (rng_u64 _) | exact m_u64 _) rfl ?_
    refine cl ca8 (c_good _ D m c g true rc ps (hq.keep H.fr) (hU.keep H.fr) n hn h5.2.2) rfl ?_
    rintro _ w3 ⟨gg, rfl, F, hgg⟩
    replace H := H.keep F; clear F
    refine unot rfl rfl ?_
    refine nl ?_
    refine then_n ?_
    first | refine cd rfl (fun hc2 => ?_) (fun hc2 => ?_) | refine cn rfl (fun hc2 => ?_) (fun hc2 => ?_)   -- test 2
    · refine sq ?_
      refine rg ?_
      refine cl ca9 (c_awake _) rfl ?_
      rintro _ w4 ⟨rfl, F⟩
      replace H := H.keep F; clear F
      refine asg (v := .bool _) rfl rfl ?_
      refine nl ?_
      refine then_n ?_
      refine rt ?_
      refine then_r ?_
      refine fin_r ?_
      exact ⟨rfl, H.fr⟩
    · obtain ⟨hgu, hm, hgl⟩ := hgg (by simpa using hc2)
      have hfs : ∀ p ∈ ps, p.fits := fun p hp => (hgl.1 p hp).fits
      have hn6 : n ≤ 1000000 := hn.2
      have hoks := hq.ok
      have hgo := ok_laid hgl hoks hn6
      refine sk ?_
      refine then_n ?_
      refine sq ?_
      refine rg ?_
      refine mv (v := .int .i64 _) rfl rfl ?_
      refine mv (v := .int .u8 _) rfl rfl ?_
      refine cl ca10 (c_partDisk _ n 512 y (by omega) (by omega) (by omega)) rfl ?_
      rintro _ w5 ⟨bd, ds, rfl, hdl, hb1, ho1, F⟩
      replace H := H.new F hb1 ho1; clear F ho1
      obtain ⟨⟨L1, L2, L3⟩, L4, L5, L6, L7⟩ := laid_all (gu := g) (ps := ps) hn hdl hfs
      obtain ⟨M1, M2, M3, M4, M5, M6, M7, M8, M9, M10, M11, M12⟩ := fld_laid (gu := g) (ps := ps) hn hdl hfs
      have hll := laid_len (gu := g) (ps := ps) hn hdl hfs
      have hpl : protB (pcs (encB ds n g ps) 0 512) (((n : Int) - 1) % 4294967296) = true := by rw [Int.emod_eq_of_lt (by omega) (by omega)]; exact prot_laid (gu := g) (ps := ps) hn hdl hfs
      refine asg (v := .slice _ _ _) rfl rfl ?_
      refine nl ?_
      refine then_n ?_
      refine sq ?_
      refine rg ?_
      refine mv (v := .slice _ _ _) rfl rfl ?_
      refine la (vs := gtCells D m c 512 g true rc) H rfl ag24_5 rfl rfl rfl ?_
      refine cl ca11 (c_gptEncode _ bd n (n * 512) _ ds D m c g rc ps (H.look (b := bd)) (by omega) (by omega) hdl (hq.keep H.fr) (by omega) (fun p hp => ⟨h5.2.2 p hp, hfs p hp⟩)) rfl ?_
      rintro _ w6 ⟨rfl, hlen, F, hnew⟩
      replace H := H.put (b := bd) F hnew; clear F hnew
      refine nl ?_
      refine then_n ?_
      refine sq ?_
      refine rg ?_
      refine mv (v := .slice _ _ _) rfl rfl ?_
      refine cl ca12 (c_implGptRead _ (some ⟨bd, 0, none⟩) (n * 512) (n * 512) (encB ds n g ps) (RB.allm (b := bd) H (by rw [hll])) (by omega) (n - 1) (n - 33) (by omega) (by omega) L4 L5 L6 L7) rfl ?_
      rintro _ w7 ⟨FR, v1, rfl, r1, r2⟩
      rw [L1, Bool.true_or]
      obtain ⟨DR, cR, rfl, O9⟩ := r1 L1
      rw [L2, used_laid hgl] at O9 ⊢
      rw [L3, M1, hpl]
      replace O9 := O9.joinN H (by simp)
      simp only [List.append_nil] at O9
      replace H := O9.sh; clear FR
      refine mv (v := .tuple _) rfl rfl ?_
      refine xt rfl rfl rfl ?_
      refine xt rfl rfl rfl ?_
      refine al H ze24 rfl ?_
      intro b2 w8 hb2 H1 F; replace O9 := O9.new F hb2 H1.look; clear H H1 F; have H := O9.sh
      refine sa (cs' := gtCells DR (ps.map gpP).length cR 512 (gT (gB g)) true false) H rfl rfl ag24_5 rfl rfl (by show 0 + 5 ≤ 5; decide) (by omega) rfl ?_
      intro w93 H1 F; replace O9 := O9.put F H1.look; clear H H1 F; have H := O9.sh
      refine asg (v := .bool _) rfl rfl ?_
      refine nl ?_
      refine then_n ?_
      refine sq ?_
      refine dr (by kernel_rfl) ?_   -- region 10
      have H := H.drew
      replace O9 := O9.drew
      refine holdH H [] ?_
      refine tk (i := 0) rfl (by kernel_rfl) rfl H (fun w' H => r_mv (v := .bool _) rfl) ?_
      refine tk (i := 1) rfl (by kernel_rfl) rfl H (fun w' H => r_mv (v := .bool _) rfl) ?_
      first | refine spaL (t := 38) (b := true) rfl ?_ | refine spaT (t := 38) rfl rfl ?_   -- guard 1
      refine tkg (i := 2) rfl (by kernel_rfl) rfl H rfl (fun w' H => r_la (vs := gtCells DR (ps.map gpP).length cR 512 (gT (gB g)) true false) H rfl ag24_5 rfl rfl) ?_
      refine tkg (i := 4) rfl (by kernel_rfl) rfl H rfl (fun w' H => r_la (vs := gtCells D m c 512 g true rc) H rfl ag24_5 rfl rfl) ?_
      refine fk (i := 3) (by kernel_rfl) rfl rfl rfl ?_
      refine gy rfl ?_
      refine cl ca14 (c_used _ DR _ cR _ _ false (ps.map gpP) (RG.of_own O9 hgo) (by simp; omega)) rfl ?_
      rintro _ w9 ⟨DU2, cU2, rfl, OU⟩
      rw [keep_laid hgl hoks] at OU ⊢
      have hRU := RG.of_own (ps := ps.map gpP) OU hgo
      replace H := H.keep OU.sh.fr; replace O9 := O9.keep OU.sh.fr
      refine nl ?_
      refine then_n ?_
      refine ⟨H, ?_⟩
      refine fk (i := 5) (by kernel_rfl) rfl rfl rfl ?_
      refine gy rfl ?_
      refine cl ca13 (c_sameGpt _ DU2 D _ cU2 m c (gT (gB g)) g _ _ _ _ (ps.map gpP) ps hRU (hq.keep H.fr) (by simp; omega)) rfl ?_
      rintro _ w10 ⟨rfl, F⟩
      replace H := H.keep F; replace O9 := O9.keep F; clear F
      rw [same_laid hgu hgl hoks hn6]
      refine nl ?_
      refine then_n ?_
      refine ⟨H, ?_⟩
      refine tk (i := 6) rfl (by kernel_rfl) rfl H (fun w' H => r_pkT (v := .bool _) rfl rfl) ?_
      refine tk (i := 7) rfl (by kernel_rfl) rfl H (fun w' H => r_mv (v := .bool _) rfl) ?_
      first | refine spaL (t := 44) (b := true) rfl ?_ | refine spaT (t := 44) rfl rfl ?_   -- guard 2
      refine tkg (i := 8) rfl (by kernel_rfl) rfl H rfl (fun w' H => r_fa rfl fo24_3) ?_
      first | refine tkg (i := 9) rfl (by kernel_rfl) rfl H rfl (fun w' H => r_ld H rfl sc4 rfl) ?_ | refine tkg (i := 9) rfl (by kernel_rfl) rfl H rfl (fun w' H => r_lc rfl (by first | assumption | exact H.fr.cell (by assumption) (by simp)) sc4) ?_ | refine tkg (i := 9) rfl (by kernel_rfl) rfl H rfl (fun w' H => r_ld H rfl sc4 (by assumption)) ?_
      refine tk (i := 10) rfl (by kernel_rfl) rfl H (fun w' H => r_pkT (v := .bool _) rfl rfl) ?_
      refine tk (i := 11) rfl (by kernel_rfl) rfl H (fun w' H => r_mv (v := .bool _) rfl) ?_
      first | refine spaL (t := 48) (b := true) rfl ?_ | refine spaT (t := 48) rfl rfl ?_   -- guard 3
      refine tkg (i := 12) rfl (by kernel_rfl) rfl H rfl (fun w' H => r_fa rfl fo24_4) ?_
      first | refine tkg (i := 13) rfl (by kernel_rfl) rfl H rfl (fun w' H => r_ld H rfl sc4 rfl) ?_ | refine tkg (i := 13) rfl (by kernel_rfl) rfl H rfl (fun w' H => r_lc rfl (by first | assumption | exact H.fr.cell (by assumption) (by simp)) sc4) ?_ | refine tkg (i := 13) rfl (by kernel_rfl) rfl H rfl (fun w' H => r_ld H rfl sc4 (by assumption)) ?_
      refine tkg (i := 14) rfl (by kernel_rfl) rfl H rfl (fun w' H => r_unot rfl) ?_
      refine tk (i := 15) rfl (by kernel_rfl) rfl H (fun w' H => r_pkT (v := .bool _) rfl rfl) ?_
      refine tk (i := 16) rfl (by kernel_rfl) rfl H (fun w' H => r_mv (v := .bool _) rfl) ?_
      first | refine spaL (t := 53) (b := true) rfl ?_ | refine spaT (t := 53) rfl rfl ?_   -- guard 4
      refine fk (i := 17) (by kernel_rfl) rfl rfl rfl ?_
      refine gy rfl ?_
      refine cl ca9 (c_awake _) rfl ?_
      rintro _ w11 ⟨rfl, F⟩
      replace H := H.keep F; replace O9 := O9.keep F; clear F
      refine nl ?_
      refine then_n ?_
      refine ⟨H, ?_⟩
      refine tk (i := 18) rfl (by kernel_rfl) rfl H (fun w' H => r_pkT (v := .bool _) rfl rfl) ?_
      refine tk (i := 19) rfl (by kernel_rfl) rfl H (fun w' H => r_asg (v := .bool _) rfl) ?_
      refine da (by kernel_rfl) ?_
      refine then_n ?_
      refine rt ?_
      refine fin_r ?_
      exact ⟨rfl, H.fr⟩

end Go.Proofs.YthcaejaaalkglaaDoor.X
/- A disk on which a table stands, in both places; what is left of it when bytes are spoilt. -/
namespace Go.Proofs.YthcaejaaalkglaaDoor.X
set_option linter.unusedVariables false
open Go
structure Stands (D : List UInt8) (n : Nat) (g : List UInt8) (ps : List GP) : Prop where
  len : D.length = n * 512
  g1 : hdrGood D 512 = true
  k1 : crcOk D 512 = true
  f1 : fld D 584 8 = 2 ∧ fld D 592 4 = 128 ∧ fld D 596 4 = 128
  c1 : fld D 600 4 = crc32 (arrB ps)
  a1 : pcs D 1024 16384 = arrB ps
  u1 : pcs D 568 16 = gB g
  m1 : fld D 536 8 = 1
  o1 : fld D 544 8 = (n : Int) - 1
  i1 : fld D 552 8 = 34
  x1 : fld D 560 8 = (n : Int) - 34
  g2 : hdrGood D (512 * (n - 1)) = true
  k2 : crcOk D (512 * (n - 1)) = true
  f2 : fld D (512 * (n - 1) + 72) 8 = ((n - 33 : Nat) : Int) ∧ fld D (512 * (n - 1) + 80) 4 = 128 ∧ fld D (512 * (n - 1) + 84) 4 = 128
  c2 : fld D (512 * (n - 1) + 88) 4 = crc32 (arrB ps)
  a2 : pcs D (512 * (n - 33)) 16384 = arrB ps
  u2 : pcs D (512 * (n - 1) + 56) 16 = gB g
  m2 : fld D (512 * (n - 1) + 24) 8 = (n : Int) - 1
  i2 : fld D (512 * (n - 1) + 40) 8 = 34
  pr : protB (pcs D 0 512) ((n : Int) - 1) = true
theorem laid_first {a o e n c : Int} {gu : List UInt8} {D : List UInt8} {A : Nat} (hp : pcs D A 512 = hdrB a o e n gu c) (h : gu.length = 16) : fld D (A + 40) 8 = 34 := by
  have P : pcs D (A + 40) 8 = pcs (hdrB a o e n gu c) 40 8 := by rw [← hp, pcsA (by decide)]
  unfold fld
  rw [P, show pcs (hdrB a o e n gu c) 40 8 = leB 8 34 from hf40 h]
  decide
theorem stands_of {D : List UInt8} {n : Nat} {g : List UInt8} {ps : List GP} (hn : 80 ≤ n ∧ n ≤ 1000000) (hl : D.length = n * 512) (e1 : pcs D 512 512 = encHdr n g ps) (e2 : pcs D 1024 16384 = arrB ps) (e3 : pcs D ((n - 33) * 512) 16384 = arrB ps) (e4 : pcs D ((n - 1) * 512) 512 = encHdr2 n g ps) (hp : protB (pcs D 0 512) ((n : Int) - 1) = true) : Stands D n g ps := by
  have hc := hdrS_rng (arrB ps)
  rw [Nat.mul_comm] at e3 e4
  have z1 := laid_first (D := D) (A := 512) e1 (gB_len g)
  have z2 := laid_first (D := D) (A := 512 * (n - 1)) e4 (gB_len g)
  obtain ⟨p1, p2, p3, p4, p5, p6, p7, p8, p9⟩ := laid_hdr (D := D) (A := 512) e1 (gB_len g) (by decide) (by omega) (by decide) (by omega) hc
  obtain ⟨q1, q2, q3, q4, q5, q6, q7, q8, q9⟩ := laid_hdr (D := D) (A := 512 * (n - 1)) e4 (gB_len g) (by omega) (by decide) (by omega) (by omega) hc
  exact ⟨hl, p1, p9, p2, p3, e2, p7, p4, p5, z1, p6, q1, q9, ⟨by rw [q2.1]; omega, q2.2⟩, q3, e3, q7, q4, z2, hp⟩
theorem stands_enc {ds : List UInt8} {n : Nat} {g : List UInt8} {ps : List GP} (hn : 80 ≤ n ∧ n ≤ 1000000) (hd : ds.length = n * 512) (hf : ∀ p ∈ ps, p.fits) : Stands (encB ds n g ps) n g ps := by
  obtain ⟨e1, e2, e3, e4, _⟩ := enc_at (gu := g) hn.1 hd hf (prot_len hd hn.1)
  exact stands_of hn (laid_len hn hd hf) e1 e2 e3 e4 (prot_laid hn hd hf)
section stands
variable {D : List UInt8} {n : Nat} {g : List UInt8} {ps : List GP}
theorem Stands.read (S : Stands D n g ps) (hn : 80 ≤ n ∧ n ≤ 1000000) :
    (hdrGood D 512 && decide (fld D 600 4 = crc32 (pcs D 1024 16384))) = true ∧
    (hdrGood D 512 = true → fld D 584 8 = 2 ∧ fld D 592 4 = 128 ∧ fld D 596 4 = 128) ∧
    (hdrGood D (512 * (n - 1)) = true → fld D (512 * (n - 1) + 72) 8 = ((n - 33 : Nat) : Int) ∧ fld D (512 * (n - 1) + 80) 4 = 128 ∧ fld D (512 * (n - 1) + 84) 4 = 128) ∧
    fitsB D 512 512 = true ∧ fitsB D 512 (512 * (n - 1)) = true ∧
    protB (pcs D 0 512) (fld D 544 8 % 4294967296) = true := by
  refine ⟨by rw [S.g1, S.c1, S.a1]; simp, fun _ => S.f1, fun _ => S.f2, laid_fits (by rw [S.f1.1]; decide) S.f1.2.1 S.f1.2.2, laid_fits (by rw [S.f2.1]; omega) S.f2.2.1 S.f2.2.2, ?_⟩
  rw [S.o1, Int.emod_eq_of_lt (by omega) (by omega)]
  exact S.pr
theorem Stands.read2 (S : Stands D n g ps) (hn : 80 ≤ n ∧ n ≤ 1000000) : (hdrGood D (512 * (n - 1)) && decide (fld D (512 * (n - 1) + 24) 8 = ((n - 1 : Nat) : Int)) && decide (fld D (512 * (n - 1) + 88) 4 = crc32 (pcs D (512 * (n - 33)) 16384))) = true ∧ protB (pcs D 0 512) (fld D (512 * (n - 1) + 24) 8 % 4294967296) = true := by
  refine ⟨?_, ?_⟩
  · rw [S.g2, S.c2, S.a2, S.m2, decide_eq_true (p := (n : Int) - 1 = ((n - 1 : Nat) : Int)) (by omega)]; simp
  · rw [S.m2, Int.emod_eq_of_lt (by omega) (by omega)]; exact S.pr
/-- A byte of the first place's is spoilt. -/
theorem Stands.one (S : Stands D n g ps) (hn : 80 ≤ n ∧ n ≤ 1000000) {q : Nat} {c : UInt8} (hq : (512 ≤ q ∧ q < 604) ∨ (1024 ≤ q ∧ q < 17408)) (hc : D[q]? ≠ some c) :
    (D.set q c).length = n * 512 ∧
    (hdrGood (D.set q c) 512 && decide (fld (D.set q c) 600 4 = crc32 (pcs (D.set q c) 1024 16384))) = false ∧
    (hdrGood (D.set q c) (512 * (n - 1)) && decide (fld (D.set q c) (512 * (n - 1) + 24) 8 = ((n - 1 : Nat) : Int)) && decide (fld (D.set q c) (512 * (n - 1) + 88) 4 = crc32 (pcs (D.set q c) (512 * (n - 33)) 16384))) = true ∧
    (hdrGood (D.set q c) 512 = true → fld (D.set q c) 584 8 = 2 ∧ fld (D.set q c) 592 4 = 128 ∧ fld (D.set q c) 596 4 = 128) ∧
    (hdrGood (D.set q c) (512 * (n - 1)) = true → fld (D.set q c) (512 * (n - 1) + 72) 8 = ((n - 33 : Nat) : Int) ∧ fld (D.set q c) (512 * (n - 1) + 80) 4 = 128 ∧ fld (D.set q c) (512 * (n - 1) + 84) 4 = 128) ∧
    fitsB (D.set q c) 512 512 = true ∧ fitsB (D.set q c) 512 (512 * (n - 1)) = true ∧
    pcs (D.set q c) (512 * (n - 1) + 56) 16 = gB g ∧ protB (pcs (D.set q c) 0 512) (fld (D.set q c) (512 * (n - 1) + 24) 8 % 4294967296) = true ∧
    pcs (D.set q c) (512 * (n - 33)) 16384 = arrB ps := by
  have hl := S.len
  obtain ⟨r1, r2, r3, r4, r5, r6⟩ := S.read hn
  obtain ⟨b1, b2⟩ := S.read2 hn
  obtain ⟨s1, s2, s3⟩ := spoil (ds := D) (A := 512) (R := 1024) (q := q) (c := c) (by omega) (by omega) (by omega) hq hc S.k1 (by rw [S.a1]; exact S.c1)
  have hA : q < 512 * (n - 1) ∨ 512 * (n - 1) + 92 ≤ q := by omega
  refine ⟨by rw [List.length_set, hl], ?_, ?_, fun h => ?_, fun h => ?_, s3 r4, ?_, ?_, ?_, ?_⟩
  · rcases s1 with h | h
    · rw [h]; rfl
    · rw [decide_eq_false (p := fld (D.set q c) 600 4 = crc32 (pcs (D.set q c) 1024 16384)) h, Bool.and_false]
  · rw [(hdr_out hA).1, fld_set_out (by omega), fld_set_out (by omega), pcs_set_out (by omega)]; exact b1
  · obtain ⟨_, t⟩ := s2 h
    rw [t 584 8 (by decide) (by decide), t 592 4 (by decide) (by decide), t 596 4 (by decide) (by decide)]; exact S.f1
  · rw [fld_set_out (by omega), fld_set_out (by omega), fld_set_out (by omega)]; exact S.f2
  · rw [fits_out hA]; exact r5
  · rw [pcs_set_out (by omega)]; exact S.u2
  · rw [pcs_set_out (by omega), fld_set_out (by omega)]; exact b2
  · rw [pcs_set_out (by omega)]; exact S.a2
/-- A byte of either place's is spoilt. -/
theorem Stands.two (S : Stands D n g ps) (hn : 80 ≤ n ∧ n ≤ 1000000) {q p : Nat} {c d : UInt8} (hq : (512 ≤ q ∧ q < 604) ∨ (1024 ≤ q ∧ q < 17408)) (hc : D[q]? ≠ some c) (hp : (512 * (n - 1) ≤ p ∧ p < 512 * (n - 1) + 92) ∨ (512 * (n - 33) ≤ p ∧ p < 512 * (n - 33) + 16384)) (hd : (D.set q c)[p]? ≠ some d) :
    ((D.set q c).set p d).length = n * 512 ∧
    (hdrGood ((D.set q c).set p d) 512 && decide (fld ((D.set q c).set p d) 600 4 = crc32 (pcs ((D.set q c).set p d) 1024 16384))) = false ∧
    (hdrGood ((D.set q c).set p d) (512 * (n - 1)) && decide (fld ((D.set q c).set p d) (512 * (n - 1) + 24) 8 = ((n - 1 : Nat) : Int)) && decide (fld ((D.set q c).set p d) (512 * (n - 1) + 88) 4 = crc32 (pcs ((D.set q c).set p d) (512 * (n - 33)) 16384))) = false ∧
    (hdrGood ((D.set q c).set p d) 512 = true → fld ((D.set q c).set p d) 584 8 = 2 ∧ fld ((D.set q c).set p d) 592 4 = 128 ∧ fld ((D.set q c).set p d) 596 4 = 128) ∧
    (hdrGood ((D.set q c).set p d) (512 * (n - 1)) = true → fld ((D.set q c).set p d) (512 * (n - 1) + 72) 8 = ((n - 33 : Nat) : Int) ∧ fld ((D.set q c).set p d) (512 * (n - 1) + 80) 4 = 128 ∧ fld ((D.set q c).set p d) (512 * (n - 1) + 84) 4 = 128) ∧
    fitsB ((D.set q c).set p d) 512 512 = true ∧ fitsB ((D.set q c).set p d) 512 (512 * (n - 1)) = true := by
  have hl := S.len
  obtain ⟨t0, t1, t2, t3, t4, t5, t6, t7, t8, t9⟩ := S.one hn hq hc
  have hA : q < 512 * (n - 1) ∨ 512 * (n - 1) + 92 ≤ q := by omega
  have k2 : crcOk (D.set q c) (512 * (n - 1)) = true := by rw [(hdr_out hA).2.2]; exact S.k2
  obtain ⟨s1, s2, s3⟩ := spoil (ds := D.set q c) (A := 512 * (n - 1)) (R := 512 * (n - 33)) (q := p) (c := d) (by omega) (by omega) (by omega) hp hd k2 (by rw [t9, fld_set_out (by omega)]; exact S.c2)
  have hB : p < 512 ∨ 512 + 92 ≤ p := by omega
  refine ⟨by rw [List.length_set, t0], ?_, ?_, fun h => ?_, fun h => ?_, ?_, s3 t6⟩
  · rw [(hdr_out hB).1, fld_set_out (by omega), pcs_set_out (by omega)]; exact t1
  · rcases s1 with h | h
    · rw [h]; simp
    · rw [decide_eq_false (p := fld ((D.set q c).set p d) (512 * (n - 1) + 88) 4 = crc32 (pcs ((D.set q c).set p d) (512 * (n - 33)) 16384)) h, Bool.and_false]
  · have e := t3 (by rw [← (hdr_out hB).1]; exact h)
    rw [← fld_set_out (q := p) (c := d) (by omega), ← fld_set_out (p := 592) (q := p) (c := d) (by omega), ← fld_set_out (p := 596) (q := p) (c := d) (by omega)] at e
    exact e
  · obtain ⟨t, u⟩ := s2 h
    rw [u _ 8 (by omega) (by omega), u _ 4 (by omega) (by omega), u _ 4 (by omega) (by omega)]
    exact t4 t
  · rw [fits_out hB]; exact t5
end stands
/-- A byte turned by another one that isn't 0. -/
theorem xor_ne {b : UInt8} {y : Int} (hy : 0 < y ∧ y ≤ 255) : b8 (bits .xor .u8 (b.toNat : Int) y) ≠ b := by
  obtain ⟨k, rfl⟩ : ∃ k : Nat, y = k := ⟨y.toNat, by omega⟩
  have hb := b.toNat_lt
  have e : bits .xor .u8 (b.toNat : Int) (k : Int) = ((b.toNat ^^^ k : Nat) : Int) := by
    have e : bits .xor .u8 (b.toNat : Int) (k : Int) = IntKind.u8.wrap ((BitVec.ofInt 8 (b.toNat : Int) ^^^ BitVec.ofInt 8 (k : Int)).toNat : Int) := rfl
    have h1 : (BitVec.ofInt 8 (b.toNat : Int)).toNat = b.toNat := by rw [BitVec.toNat_ofInt]; omega
    have h2 : (BitVec.ofInt 8 (k : Int)).toNat = k := by rw [BitVec.toNat_ofInt]; omega
    have hx : b.toNat ^^^ k < 2 ^ 8 := Nat.xor_lt_two_pow (by omega) (by omega)
    rw [e, BitVec.toNat_xor, h1, h2, w_u8 (by omega)]
  rw [e]
  intro h
  have h2 := congrArg UInt8.toNat h
  have hx : b.toNat ^^^ k < 2 ^ 8 := Nat.xor_lt_two_pow (by omega) (by omega)
  have e3 : (b8 ((b.toNat ^^^ k : Nat) : Int)).toNat = b.toNat ^^^ k := by
    have := u8v_b8 (a := ((b.toNat ^^^ k : Nat) : Int)) (by omega)
    unfold u8v at this
    injection this with _ this
    exact_mod_cast this
  rw [e3] at h2
  have h3 : b.toNat ^^^ (b.toNat ^^^ k) = b.toNat ^^^ b.toNat := by rw [h2]
  rw [← Nat.xor_assoc, Nat.xor_self, Nat.zero_xor] at h3
  omega
theorem xor_at {D : List UInt8} {q : Nat} {y : Int} (hy : 0 < y ∧ y ≤ 255) : D[q]? ≠ some (b8 (bits .xor .u8 ((D.getD q 0).toNat : Int) y)) := by
  intro h
  obtain ⟨hq, e⟩ := List.getElem?_eq_some_iff.1 h
  have e2 : D.getD q 0 = D[q] := by simp [List.getD_eq_getElem?_getD, List.getElem?_eq_getElem hq]
  rw [← e2] at e
  exact xor_ne hy e.symm
theorem xor8_rng (a b : Int) : 0 ≤ bits .xor .u8 a b ∧ bits .xor .u8 a b ≤ 255 := by
  have e : bits .xor .u8 a b = IntKind.u8.wrap ((BitVec.ofInt IntKind.u8.bits a ^^^ BitVec.ofInt IntKind.u8.bits b).toNat : Int) := rfl
  have h : (BitVec.ofInt IntKind.u8.bits a ^^^ BitVec.ofInt IntKind.u8.bits b).toNat < 256 := (BitVec.ofInt IntKind.u8.bits a ^^^ BitVec.ofInt IntKind.u8.bits b).isLt
  rw [e, w_u8 (by omega)]; omega
end Go.Proofs.YthcaejaaalkglaaDoor.X
/- Walks of functions, printed by a program of this claim. -/
namespace Go.Proofs.YthcaejaaalkglaaDoor.X
set_option linter.unusedVariables false
set_option linter.unusedSimpArgs false
open Go Go.RowKit

namespace P33
theorem ag24_5 : aggB Tryd.prog 24 5 = true := by kernel_rfl
theorem ca10 : callable Tryd.prog 10 = true := by kernel_rfl
theorem ca11 : callable Tryd.prog 11 = true := by kernel_rfl
theorem ca12 : callable Tryd.prog 12 = true := by kernel_rfl
theorem ca13 : callable Tryd.prog 13 = true := by kernel_rfl
theorem ca14 : callable Tryd.prog 14 = true := by kernel_rfl
theorem ca15 : callable Tryd.prog 15 = true := by kernel_rfl
theorem ca7 : callable Tryd.prog 7 = true := by kernel_rfl
theorem ca8 : callable Tryd.prog 8 = true := by kernel_rfl
theorem ca9 : callable Tryd.prog 9 = true := by kernel_rfl
theorem fo24_1 : fieldOff Tryd.prog 24 1 = some 1 := by kernel_rfl
theorem fo24_3 : fieldOff Tryd.prog 24 3 = some 3 := by kernel_rfl
theorem fo24_4 : fieldOff Tryd.prog 24 4 = some 4 := by kernel_rfl
theorem sc25 : scalarB Tryd.prog 25 = true := by kernel_rfl
theorem sc3 : scalarB Tryd.prog 3 = true := by kernel_rfl
theorem sc4 : scalarB Tryd.prog 4 = true := by kernel_rfl
theorem sc5 : scalarB Tryd.prog 5 = true := by kernel_rfl
theorem sz5_1 : sizeB Tryd.prog 5 1 = true := by kernel_rfl
theorem ze24 : zeroL Tryd.prog 24 = some [.slice none 0 0, .int .i64 0, .string ⟨#[]⟩, .bool false, .bool false] := by kernel_rfl

end P33
open P33

set_option maxRecDepth 100000 in
set_option maxHeartbeats 1000000 in
theorem c_place (w : World) (a r bk : Nat) (x : Int) (hx : 0 ≤ x ∧ x ≤ 65535) (hk : w.cell? ⟨bk, 0, none⟩ = some (.int .u16 x)) (ha : a ≤ 1000000) (hr : r ≤ 1000000) : Calls Tryd.prog 15 #[.int .i64 (a : Int), .int .i64 (r : Int), .pointer (some ⟨bk, 0, none⟩)] w (Ret fun v w' => (∃ q : Nat, v = .int .i64 (q : Int) ∧ ((512 * a ≤ q ∧ q < 512 * a + 92) ∨ (512 * r ≤ q ∧ q < 512 * r + 16384))) ∧ Fr [] w w') := by
  refine enter (fun ρ => ρ 5) Tryd.func15 rfl rfl rfl (res1 rfl) ?_
  have H := SH.nil w
  refine sq ?_
  refine rg ?_
  refine asg (v := .int .i64 _) rfl rfl ?_
  refine nl ?_
  refine then_n ?_
  refine sq ?_
  refine rg ?_
  first | refine ld H rfl sc25 rfl rfl ?_ | refine lc rfl (by first | assumption | exact H.fr.cell (by assumption) (by simp)) sc25 rfl ?_ | refine ld H rfl sc25 (by assumption) rfl ?_
  refine cvi rfl rfl Tryd.underlying3 (by first | exact w_i64 (by omega) | exact w_i64 (rng_i64 _) | rfl) rfl ?_
  refine rem rfl rfl (by omega) (by omega) rfl rfl ?_
  refine asg (v := .int .i64 _) rfl rfl ?_
  refine nl ?_
  refine then_n ?_
  refine sq ?_
  refine sq ?_
  refine rg ?_
  refine mv (v := .int .i64 _) rfl rfl ?_
  refine lss rfl rfl rfl ?_
  refine nl ?_
  refine then_n ?_
  first | refine cd rfl (fun hc1 => ?_) (fun hc1 => ?_) | refine cn rfl (fun hc1 => ?_) (fun hc1 => ?_)   -- test 1
  · refine sq ?_
    refine rg ?_
    refine mv (v := .int .i64 _) rfl rfl ?_
    refine mul rfl rfl (by first | exact w_i64 (by omega) | exact w_i64 (rng_i64 _) | rfl) rfl ?_
    refine mv (v := .int .i64 _) rfl rfl ?_
    refine add rfl rfl (by first | exact w_i64 (by omega) | exact w_i64 (rng_i64 _) | rfl) rfl ?_
    refine asg (v := .int .i64 _) rfl rfl ?_
    refine nl ?_
    refine then_n ?_
    refine rt ?_
    refine then_r ?_
    refine fin_r ?_
    exact ⟨⟨((a : Int) * 512 + x % 16476).toNat, (congrArg (Value.int .i64) (Int.toNat_of_nonneg (by omega)).symm : Value.int .i64 ((a : Int) * 512 + x % 16476) = _), .inl (by omega)⟩, H.fr⟩
  · refine sk ?_
    refine then_n ?_
    refine sq ?_
    refine rg ?_
    refine mv (v := .int .i64 _) rfl rfl ?_
    refine mul rfl rfl (by first | exact w_i64 (by omega) | exact w_i64 (rng_i64 _) | rfl) rfl ?_
    refine mv (v := .int .i64 _) rfl rfl ?_
    refine add rfl rfl (by first | exact w_i64 (by omega) | exact w_i64 (rng_i64 _) | rfl) rfl ?_
    refine sub rfl rfl (by first | exact w_i64 (by omega) | exact w_i64 (rng_i64 _) | rfl) rfl ?_
    refine asg (v := .int .i64 _) rfl rfl ?_
    refine nl ?_
    refine then_n ?_
    refine rt ?_
    refine fin_r ?_
    exact ⟨⟨((r : Int) * 512 + x % 16476 - 92).toNat, (congrArg (Value.int .i64) (Int.toNat_of_nonneg (by omega)).symm : Value.int .i64 ((r : Int) * 512 + x % 16476 - 92) = _), .inr (by omega)⟩, H.fr⟩

set_option maxRecDepth 100000 in
set_option maxHeartbeats 4000000 in
theorem c_FnGptRecovers (w : World) (D : Option Addr) (m c : Nat) (sec : Int) (g : List UInt8) (pr rc : Bool) (ps : List GP) (hq : RG w D m c ps) (hU : Utf8W w) (x z y : Int) (bt : Bool) (hx : 0 ≤ x ∧ x ≤ 65535) (hz : 0 ≤ z ∧ z ≤ 65535) (hy : 0 ≤ y ∧ y ≤ 255) : Calls Tryd.prog 4 #[.agg (gtCells D m c sec g pr rc).toArray, .int .u16 x, .int .u16 z, .int .u8 y, .bool bt] w (Ret fun v w' => v = .bool true ∧ Fr [] w w') := by
  refine enter (fun ρ => ρ 10) Tryd.func4 rfl rfl rfl (res1 rfl) ?_
  have H := SH.nil w
  have hql := hq.len
  obtain ⟨n, hnn⟩ : ∃ n : Nat, (n : Int) = 80 + x % 200 := ⟨(80 + x % 200).toNat, by omega⟩
  have hn : 80 ≤ n ∧ n ≤ 1000000 := by omega
  refine sq ?_
  refine rg ?_
  refine bx (v := .agg _) H rfl rfl rfl ?_
  clear H; intro b1 w1 hb1 H _
  refine bx (v := .int .u16 _) H rfl rfl rfl ?_
  clear H; intro b2 w2 hb2 H _
  refine asg (v := .bool _) rfl rfl ?_
  refine nl ?_
  refine then_n ?_
  refine sq ?_
  refine sq ?_
  refine rg ?_
  first | refine la H rfl ag24_5 rfl rfl rfl ?_ | refine lw rfl ag24_5 rfl (by assumption) rfl ?_
  refine cl ca7 (c_fits5 _ D m c sec g pr rc ps (hq.keep H.fr)) rfl ?_
  rintro _ w3 ⟨g5, rfl, g5h, F⟩
  replace H := H.keep F; clear F
  refine unot rfl rfl ?_
  refine nl ?_
  refine then_n ?_
  first | refine cd rfl (fun hc1 => ?_) (fun hc1 => ?_) | refine cn rfl (fun hc1 => ?_) (fun hc1 => ?_)   -- test 1
  · refine sq ?_
    refine rg ?_
    refine asg (v := .bool _) rfl rfl ?_
    refine nl ?_
    refine then_n ?_
    refine rt ?_
    refine then_r ?_
    refine fin_r ?_
    exact ⟨rfl, H.fr⟩
  · have h5 := g5h (by simpa using hc1)
    refine sk ?_
    refine then_n ?_
    refine sq ?_
    refine rg ?_
    refine mv (v := .int .u16 _) rfl rfl ?_
    refine cvi rfl rfl Tryd.underlying3 (by first | exact w_i64 (by omega) | exact w_i64 (rng_i64 _) | rfl) rfl ?_
    refine rem rfl rfl (by omega) (by omega) rfl rfl ?_
    refine add (c := (n : Int)) rfl rfl (by rw [w_i64 (by omega)]; omega) rfl ?_
    refine asg (v := .int .i64 _) rfl rfl ?_
    refine nl ?_
    refine then_n ?_
    refine sq ?_
    refine rg ?_
    refine fa rfl fo24_1 rfl ?_
    refine st (v := .int .i64 _) H rfl rfl sc3 rfl (by show 0 + 1 < 5; decide) (by omega) ?_
    clear H; intro w91 H _
    refine fa rfl fo24_3 rfl ?_
    refine st (v := .bool _) H rfl rfl sc4 rfl (by show 0 + 3 < 5; decide) (by omega) ?_
    clear H; intro w92 H _
    refine nl ?_
    refine then_n ?_
    refine sq ?_
    refine sq ?_
    refine rg ?_
    replace H := sh_cells1 (cs' := gtCells D m c 512 g true rc) H rfl
    refine la (vs := gtCells D m c 512 g true rc) H rfl ag24_5 rfl rfl rfl ?_
    refine mv (v := .int .i64 _) rfl rfl ?_
    refine cvi rfl rfl Tryd.underlying28 (by first | exact w_u64 (by omega) | exact w_u64 (rng_u64 _) | exact m_u64 _) rfl ?_
    refine cl ca8 (c_good _ D m c g true rc ps (hq.keep H.fr) (hU.keep H.fr) n hn h5.2.2) rfl ?_
    rintro _ w4 ⟨gg, rfl, F, hgg⟩
    replace H := H.keep F; clear F
    refine unot rfl rfl ?_
    refine mv (v := .bool _) rfl rfl ?_
    first | refine spd (t := 30) rfl (fun hg1 => ?_) (fun hg1 => ?_) | refine sp (t := 30) rfl (fun hg1 => ?_) (fun hg1 => ?_)   -- guard 1
    · refine gn rfl rfl ?_
      refine gn rfl rfl ?_
      refine pkT (v := .bool _) rfl rfl rfl ?_
      refine nl ?_
      refine then_n ?_
      refine cbT rfl rfl ?_
      refine sq ?_
      refine rg ?_
      refine cl ca9 (c_awake _) rfl ?_
      rintro _ w5 ⟨rfl, F⟩
      replace H := H.keep F; clear F
      refine asg (v := .bool _) rfl rfl ?_
      refine nl ?_
      refine then_n ?_
      refine rt ?_
      refine then_r ?_
      refine fin_r ?_
      exact ⟨rfl, H.fr⟩
    · obtain ⟨hgu, hm, hgl⟩ := hgg (by simpa using hg1)
      have hfs : ∀ p ∈ ps, p.fits := fun p hp => (hgl.1 p hp).fits
      have hn6 : n ≤ 1000000 := hn.2
      have hoks := hq.ok
      have hgo := ok_laid hgl hoks hn6
      refine gy rfl ?_
      refine mv (v := .int .u8 _) rfl rfl ?_
      refine gy rfl ?_
      refine eql rfl rfl rfl ?_
      refine pkF (v := .bool _) rfl rfl rfl ?_
      refine nl ?_
      refine then_n ?_
      first | refine cd rfl (fun hc2 => ?_) (fun hc2 => ?_) | refine cn rfl (fun hc2 => ?_) (fun hc2 => ?_)   -- test 2
      · refine sq ?_
        refine rg ?_
        refine cl ca9 (c_awake _) rfl ?_
        rintro _ w6 ⟨rfl, F⟩
        replace H := H.keep F; clear F
        refine asg (v := .bool _) rfl rfl ?_
        refine nl ?_
        refine then_n ?_
        refine rt ?_
        refine then_r ?_
        refine fin_r ?_
        exact ⟨rfl, H.fr⟩
      · refine sk ?_
        refine then_n ?_
        refine sq ?_
        refine rg ?_
        refine mv (v := .int .i64 _) rfl rfl ?_
        refine cl ca10 (c_partDisk _ n 512 0 (by omega) (by omega) (by omega)) rfl ?_
        rintro _ w7 ⟨bd, ds, rfl, hdl, hb1, ho1, F⟩
        replace H := H.new F hb1 ho1; clear F ho1
        have S := stands_enc (g := g) hn hdl hfs
        refine asg (v := .slice _ _ _) rfl rfl ?_
        refine nl ?_
        refine then_n ?_
        refine sq ?_
        refine rg ?_
        refine mv (v := .slice _ _ _) rfl rfl ?_
        refine la (vs := gtCells D m c 512 g true rc) H rfl ag24_5 rfl rfl rfl ?_
        refine cl ca11 (c_gptEncode _ bd n (n * 512) _ ds D m c g rc ps (H.look (b := bd)) (by omega) (by omega) hdl (hq.keep H.fr) (by omega) (fun p hp => ⟨h5.2.2 p hp, hfs p hp⟩)) rfl ?_
        rintro _ w8 ⟨rfl, hlen, F, hnew⟩
        replace H := H.put (b := bd) F hnew; clear F hnew
        generalize encB ds n g ps = DD at S H hlen
        have hSl := S.len
        refine nl ?_
        refine then_n ?_
        refine sq ?_
        refine rg ?_
        refine mkf [.pointer _] rfl rfl ?_
        refine asg (v := .func _ _ _) rfl rfl ?_
        refine nl ?_
        refine then_n ?_
        refine sq ?_
        refine rg ?_
        refine mv (v := .slice _ _ _) rfl rfl ?_
        refine mv (v := .func _ _ _) rfl rfl ?_
        refine cld rfl ca15 (c_place _ 1 2 b2 z hz (cell_at (H.look (b := b2))) (by omega) (by omega)) rfl ?_
        rintro _ w9 ⟨⟨q1, rfl, hq1⟩, F⟩
        replace H := H.keep F; clear F
        have hxr := xor8_rng
        refine iaN (q1) rfl rfl Tryd.underlying30 sz5_1 (by omega) (by omega) rfl ?_
        first | (refine ldb H rfl sc5 (by omega) rfl ?_; intro hu1) | refine ld H rfl sc5 rfl rfl ?_ | refine lc rfl (by first | assumption | exact H.fr.cell (by assumption) (by simp)) sc5 rfl ?_
        refine mv (v := .int .u8 _) rfl rfl ?_
        refine bxor rfl rfl rfl rfl ?_
        refine iaN (q1) rfl rfl Tryd.underlying30 sz5_1 (by omega) (by omega) rfl ?_
        refine stb H rfl rfl sc5 (hxr _ _) (by omega) (by omega) ?_
        clear H; intro w95 H _
        refine nl ?_
        refine then_n ?_
        refine sq ?_
        refine sq ?_
        refine rg ?_
        refine mv (v := .bool _) rfl rfl ?_
        refine nl ?_
        refine then_n ?_
        first | refine cd rfl (fun hc3 => ?_) (fun hc3 => ?_) | refine cn rfl (fun hc3 => ?_) (fun hc3 => ?_)   -- test 3
        · have hl1 : (List.set DD q1 (b8 (bits .xor .u8 ((List.getD DD q1 0).toNat : Int) y))).length = n * 512 := by rw [List.length_set, hSl]
          refine rg ?_
          refine mv (v := .slice _ _ _) rfl rfl ?_
          refine mv (v := .func _ _ _) rfl rfl ?_
          refine mv (v := .int .i64 _) rfl rfl ?_
          refine sub (c := ((n - 1 : Nat) : Int)) rfl rfl (by rw [w_i64 (by omega)]; omega) rfl ?_
          refine mv (v := .int .i64 _) rfl rfl ?_
          refine sub (c := ((n - 33 : Nat) : Int)) rfl rfl (by rw [w_i64 (by omega)]; omega) rfl ?_
          refine cld rfl ca15 (c_place _ (n - 1) (n - 33) b2 z hz (cell_at (H.look (b := b2))) (by omega) (by omega)) rfl ?_
          rintro _ w10 ⟨⟨q2, rfl, hq2⟩, F⟩
          replace H := H.keep F; clear F
          have hxr := xor8_rng
          obtain ⟨t0, t1, t2, t3, t4, t5, t6⟩ := S.two hn (q := q1) (p := q2) (by omega) (xor_at ⟨by omega, hy.2⟩) (by omega) (xor_at ⟨by omega, hy.2⟩)
          refine iaN (q2) rfl rfl Tryd.underlying30 sz5_1 (by omega) (by omega) rfl ?_
          first | (refine ldb H rfl sc5 (by omega) rfl ?_; intro hu2) | refine ld H rfl sc5 rfl rfl ?_ | refine lc rfl (by first | assumption | exact H.fr.cell (by assumption) (by simp)) sc5 rfl ?_
          refine mv (v := .int .u8 _) rfl rfl ?_
          refine bxor rfl rfl rfl rfl ?_
          refine iaN (q2) rfl rfl Tryd.underlying30 sz5_1 (by omega) (by omega) rfl ?_
          refine stb H rfl rfl sc5 (hxr _ _) (by omega) (by omega) ?_
          clear H; intro w96 H _
          refine nl ?_
          refine then_n ?_
          refine sq ?_
          refine rg ?_
          refine mv (v := .slice _ _ _) rfl rfl ?_
          refine cl ca12 (c_implGptRead _ (some ⟨bd, 0, none⟩) (n * 512) (n * 512) (List.set (List.set DD q1 (b8 (bits .xor .u8 ((List.getD DD q1 0).toNat : Int) y))) q2 (b8 (bits .xor .u8 ((List.getD (List.set DD q1 (b8 (bits .xor .u8 ((List.getD DD q1 0).toNat : Int) y))) q2 0).toNat : Int) y))) (RB.allm (b := bd) H (by rw [t0])) (by omega) (n - 1) (n - 33) (by omega) (by omega) t3 t4 t5 t6) rfl ?_
          rintro _ w11 ⟨FR, v1, rfl, r1, r2, r3⟩
          rw [t1, t2]
          obtain rfl := r3 t1 t2
          replace H := H.keep FR
          have O9 := OR.nil (e := 49) (sz := 8) H
          replace O9 := O9
          refine mv (v := .tuple _) rfl rfl ?_
          refine xt rfl rfl rfl ?_
          refine xt rfl rfl rfl ?_
          refine al H ze24 rfl ?_
          intro b3 w12 hb3 H1 F; replace O9 := O9.new F hb3 H1.look; clear H H1 F; have H := O9.sh
          refine sa H rfl rfl ag24_5 rfl rfl (by decide) (by omega) rfl ?_
          intro w13 H1 F; replace O9 := O9.put F H1.look; clear H H1 F; have H := O9.sh
          refine asg (v := .bool _) rfl rfl ?_
          refine nl ?_
          refine then_n ?_
          refine sq ?_
          refine sq ?_
          refine rg ?_
          refine mv (v := .bool _) rfl rfl ?_
          refine nl ?_
          refine then_n ?_
          first | refine cT rfl hc3 ?_ | refine cbT rfl hc3 ?_   -- test 4
          refine sq ?_
          refine rg ?_
          refine mv (v := .bool _) rfl rfl ?_
          refine unot rfl rfl ?_
          refine mv (v := .bool _) rfl rfl ?_
          first | refine spL (t := 70) (b := true) rfl ?_ | refine spT (t := 70) rfl rfl ?_   -- guard 2
          refine gy rfl ?_
          refine cl ca9 (c_awake _) rfl ?_
          rintro _ w14 ⟨rfl, F⟩
          replace H := H.keep F; clear F
          refine pkT (v := .bool _) rfl rfl rfl ?_
          refine asg (v := .bool _) rfl rfl ?_
          refine nl ?_
          refine then_n ?_
          refine rt ?_
          refine then_r ?_
          refine fin_r ?_
          exact ⟨rfl, H.fr⟩
        · obtain ⟨t0, t1, t2, t3, t4, t5, t6, t7, t8, t9⟩ := S.one hn (q := q1) (by omega) (xor_at ⟨by omega, hy.2⟩)
          refine sk ?_
          refine then_n ?_
          refine sq ?_
          refine rg ?_
          refine mv (v := .slice _ _ _) rfl rfl ?_
          refine cl ca12 (c_implGptRead _ (some ⟨bd, 0, none⟩) (n * 512) (n * 512) (List.set DD q1 (b8 (bits .xor .u8 ((List.getD DD q1 0).toNat : Int) y))) (RB.allm (b := bd) H (by rw [t0])) (by omega) (n - 1) (n - 33) (by omega) (by omega) t3 t4 t5 t6) rfl ?_
          rintro _ w15 ⟨FR, v1, rfl, r1, r2, r3⟩
          rw [t1, t2]
          obtain ⟨DR, cR, rfl, O9⟩ := r2 t1 t2
          rw [t9, used_laid hgl] at O9
          rw [t7, t8, t9, used_laid hgl]
          replace O9 := O9.joinN H (by simp)
          simp only [List.append_nil] at O9
          replace H := O9.sh; clear FR
          refine mv (v := .tuple _) rfl rfl ?_
          refine xt rfl rfl rfl ?_
          refine xt rfl rfl rfl ?_
          refine al H ze24 rfl ?_
          intro b4 w16 hb4 H1 F; replace O9 := O9.new F hb4 H1.look; clear H H1 F; have H := O9.sh
          refine sa H rfl rfl ag24_5 rfl rfl (by decide) (by omega) rfl ?_
          intro w17 H1 F; replace O9 := O9.put F H1.look; clear H H1 F; have H := O9.sh
          refine asg (v := .bool _) rfl rfl ?_
          refine nl ?_
          refine then_n ?_
          refine sq ?_
          refine sq ?_
          refine rg ?_
          refine mv (v := .bool _) rfl rfl ?_
          refine nl ?_
          refine then_n ?_
          first | refine cF rfl hc3 ?_ | refine cbF rfl hc3 ?_   -- test 5
          refine sk ?_
          refine then_n ?_
          refine sq ?_
          refine dr (by kernel_rfl) ?_   -- region 16
          have H := H.drew
          replace O9 := O9.drew
          refine holdH H [] ?_
          refine tk (i := 0) rfl (by kernel_rfl) rfl H (fun w' H => r_mv (v := .bool _) rfl) ?_
          refine tk (i := 1) rfl (by kernel_rfl) rfl H (fun w' H => r_mv (v := .bool _) rfl) ?_
          first | refine spaL (t := 74) (b := true) rfl ?_ | refine spaT (t := 74) rfl rfl ?_   -- guard 3
          refine tkg (i := 2) rfl (by kernel_rfl) rfl H rfl (fun w' H => r_fa rfl fo24_4) ?_
          first | refine tkg (i := 3) rfl (by kernel_rfl) rfl H rfl (fun w' H => r_ld H rfl sc4 rfl) ?_ | refine tkg (i := 3) rfl (by kernel_rfl) rfl H rfl (fun w' H => r_lc rfl (by first | assumption | exact H.fr.cell (by assumption) (by simp)) sc4) ?_ | refine tkg (i := 3) rfl (by kernel_rfl) rfl H rfl (fun w' H => r_ld H rfl sc4 (by assumption)) ?_
          refine tk (i := 4) rfl (by kernel_rfl) rfl H (fun w' H => r_pkT (v := .bool _) rfl rfl) ?_
          refine tk (i := 5) rfl (by kernel_rfl) rfl H (fun w' H => r_mv (v := .bool _) rfl) ?_
          first | refine spaL (t := 78) (b := true) rfl ?_ | refine spaT (t := 78) rfl rfl ?_   -- guard 4
          refine tkg (i := 6) rfl (by kernel_rfl) rfl H rfl (fun w' H => r_la (vs := gtCells DR (ps.map gpP).length cR 512 (gT (gB g)) true true) H rfl ag24_5 rfl rfl) ?_
          refine tkg (i := 8) rfl (by kernel_rfl) rfl H rfl (fun w' H => r_la (vs := gtCells D m c 512 g true rc) H rfl ag24_5 rfl rfl) ?_
          refine fk (i := 7) (by kernel_rfl) rfl rfl rfl ?_
          refine gy rfl ?_
          refine cl ca14 (c_used _ DR _ cR _ _ true (ps.map gpP) (RG.of_own O9 hgo) (by simp; omega)) rfl ?_
          rintro _ w18 ⟨DU2, cU2, rfl, OU⟩
          rw [keep_laid hgl hoks] at OU ⊢
          have hRU := RG.of_own (ps := ps.map gpP) OU hgo
          replace H := H.keep OU.sh.fr; replace O9 := O9.keep OU.sh.fr
          refine nl ?_
          refine then_n ?_
          refine ⟨H, ?_⟩
          refine fk (i := 9) (by kernel_rfl) rfl rfl rfl ?_
          refine gy rfl ?_
          refine cl ca13 (c_sameGpt _ DU2 D _ cU2 m c (gT (gB g)) g _ _ _ _ (ps.map gpP) ps hRU (hq.keep H.fr) (by simp; omega)) rfl ?_
          rintro _ w19 ⟨rfl, F⟩
          replace H := H.keep F; replace O9 := O9.keep F; clear F
          rw [same_laid hgu hgl hoks hn6]
          refine nl ?_
          refine then_n ?_
          refine ⟨H, ?_⟩
          refine tk (i := 10) rfl (by kernel_rfl) rfl H (fun w' H => r_pkT (v := .bool _) rfl rfl) ?_
          refine tk (i := 11) rfl (by kernel_rfl) rfl H (fun w' H => r_mv (v := .bool _) rfl) ?_
          first | refine spaL (t := 84) (b := true) rfl ?_ | refine spaT (t := 84) rfl rfl ?_   -- guard 5
          refine fk (i := 12) (by kernel_rfl) rfl rfl rfl ?_
          refine gy rfl ?_
          refine cl ca9 (c_awake _) rfl ?_
          rintro _ w20 ⟨rfl, F⟩
          replace H := H.keep F; replace O9 := O9.keep F; clear F
          refine nl ?_
          refine then_n ?_
          refine ⟨H, ?_⟩
          refine tk (i := 13) rfl (by kernel_rfl) rfl H (fun w' H => r_pkT (v := .bool _) rfl rfl) ?_
          refine tk (i := 14) rfl (by kernel_rfl) rfl H (fun w' H => r_asg (v := .bool _) rfl) ?_
          refine da (by kernel_rfl) ?_
          refine then_n ?_
          refine rt ?_
          refine fin_r ?_
          exact ⟨rfl, H.fr⟩

end Go.Proofs.YthcaejaaalkglaaDoor.X
