/- Laws and walks on the road to the statement: P24, P25, P26, P27, GptLaw, GptLaw2, GptSmall, GptLaid, P28, GptBack, GptProt, P29, P30, GptSpoil, GptGood. -/
import Derived.Test.YthcaejaaalkglaaDoorM5
/- Walks of functions, printed by a program of this claim. -/
namespace Go.Proofs.YthcaejaaalkglaaDoor.X
set_option linter.unusedVariables false
set_option linter.unusedSimpArgs false
open Go Go.RowKit
namespace PF
theorem ca29 : callable Tryd.prog 29 = true := by kernel_rfl
theorem ca30 : callable Tryd.prog 30 = true := by kernel_rfl
theorem ca31 : callable Tryd.prog 31 = true := by kernel_rfl
end PF
open PF
set_option maxRecDepth 100000 in
set_option maxHeartbeats 1000000 in
theorem c_implGptRead (w : World) (B : Option Addr) (n c : Nat) (ds : List UInt8) (hR : RB w B n ds) (hL : 34816 ≤ n ∧ n ≤ 10000000) (b f : Nat) (hLb : n = 512 * (b + 1)) (hf : 512 * f + 16384 ≤ n) (hcan1 : hdrGood ds 512 = true → fld ds 584 8 = 2 ∧ fld ds 592 4 = 128 ∧ fld ds 596 4 = 128) (hcan2 : hdrGood ds (512 * b) = true → fld ds (512 * b + 72) 8 = (f : Int) ∧ fld ds (512 * b + 80) 4 = 128 ∧ fld ds (512 * b + 84) 4 = 128) (hfit1 : fitsB ds 512 512 = true) (hfit2 : fitsB ds 512 (512 * b) = true) : Calls Tryd.prog 12 #[.slice B n c, .int .i64 512] w (Ret fun v w' => Fr [] w w' ∧ ∃ v1, v = .tuple #[v1, .bool ((hdrGood ds 512 && decide (fld ds 600 4 = crc32 (pcs ds 1024 16384))) || (hdrGood ds (512 * b) && decide (fld ds (512 * b + 24) 8 = (b : Int)) && decide (fld ds (512 * b + 88) 4 = crc32 (pcs ds (512 * f) 16384))))] ∧ ((hdrGood ds 512 && decide (fld ds 600 4 = crc32 (pcs ds 1024 16384))) = true → ∃ D2 cap2, v1 = .agg (gtCells D2 (usedP (pcs ds 1024 16384) 128).length cap2 512 (gT (pcs ds 568 16)) (protB (pcs ds 0 512) (fld ds 544 8 % 4294967296)) false).toArray ∧ OR 49 8 w [] w' [] D2 (usedP (pcs ds 1024 16384) 128).length cap2 ((usedP (pcs ds 1024 16384) 128).flatMap GP.cells)) ∧ ((hdrGood ds 512 && decide (fld ds 600 4 = crc32 (pcs ds 1024 16384))) = false → (hdrGood ds (512 * b) && decide (fld ds (512 * b + 24) 8 = (b : Int)) && decide (fld ds (512 * b + 88) 4 = crc32 (pcs ds (512 * f) 16384))) = true → ∃ D2 cap2, v1 = .agg (gtCells D2 (usedP (pcs ds (512 * f) 16384) 128).length cap2 512 (gT (pcs ds (512 * b + 56) 16)) (protB (pcs ds 0 512) ((fld ds (512 * b + 24) 8) % 4294967296)) true).toArray ∧ OR 49 8 w [] w' [] D2 (usedP (pcs ds (512 * f) 16384) 128).length cap2 ((usedP (pcs ds (512 * f) 16384) 128).flatMap GP.cells)) ∧ ((hdrGood ds 512 && decide (fld ds 600 4 = crc32 (pcs ds 1024 16384))) = false → (hdrGood ds (512 * b) && decide (fld ds (512 * b + 24) 8 = (b : Int)) && decide (fld ds (512 * b + 88) 4 = crc32 (pcs ds (512 * f) 16384))) = false → v1 = .agg (gtCells none 0 0 0 [] false false).toArray)) := by
 refine enterR [.cell 4 24, .tmp 5] Tryd.func12 rfl rfl rfl rfl ?_
 have H := SH.nil w
 have hdl := hR.1
 refine sq ?_
 refine rg ?_
 refine al H ze24 rfl ?_
 clear H; intro b1 w1 hb1 H _
 refine asg (v := .bool _) rfl rfl ?_
 refine nl ?_
 refine then_n ?_
 refine sq ?_
 refine rg ?_
 refine mv (v := .slice _ _ _) rfl rfl ?_
 refine cvBS rfl (by exact hR.keep H.fr) Tryd.underlying30 Tryd.underlying5 Tryd.underlying9 rfl ?_
 refine cl ca30 (c_memoryOf _ ds (by omega)) rfl ?_
 rintro _ w2 ⟨bm, bd, cm, rfl, hcm, K⟩
 replace H := H.join K (by simp); simp only [List.cons_append, List.nil_append] at H; clear K
 refine mv (v := .int .i64 _) rfl rfl ?_
 refine cl ca29 (c_implRead _ bm bd ds.length cm _ _ _ ds (H.look (b := bm)) (RB.pre H) (H.ne_of rfl (y := ⟨bd, _, true⟩) (by repeat (first | exact .head _ | apply List.Mem.tail))) (by omega) hcm b f (by omega) (by omega) hcan1 hcan2 hfit1 hfit2) rfl ?_
 rintro _ w3 ⟨F, ⟨x9, hm9⟩, A9, rfl, hr1, hr2⟩
 replace H := H.put (b := bm) F hm9
 refine mv (v := .tuple _) rfl rfl ?_
 refine xt rfl rfl rfl ?_
 refine xt rfl rfl rfl ?_
 refine asg (v := .pointer _) rfl rfl ?_
 refine asg (v := .bool _) rfl rfl ?_
 refine nl ?_
 refine then_n ?_
 refine sq ?_
 refine sq ?_
 refine rg ?_
 refine mv (v := .bool _) rfl rfl ?_
 refine unot rfl rfl ?_
 refine nl ?_
 refine then_n ?_
 refine cn rfl (fun hc1 => ?_) (fun hc1 => ?_)
 ·have hgg : ((hdrGood ds 512 && decide (fld ds 600 4 = crc32 (pcs ds 1024 16384))) || (hdrGood ds (512 * b) && decide (fld ds (512 * b + 24) 8 = (b : Int)) && decide (fld ds (512 * b + 88) 4 = crc32 (pcs ds (512 * f) 16384)))) = false := by have h8 : (!((hdrGood ds 512 && decide (fld ds 600 4 = crc32 (pcs ds 1024 16384))) || (hdrGood ds (512 * b) && decide (fld ds (512 * b + 24) 8 = (b : Int)) && decide (fld ds (512 * b + 88) 4 = crc32 (pcs ds (512 * f) 16384))))) = true := hc1; cases hq : ((hdrGood ds 512 && decide (fld ds 600 4 = crc32 (pcs ds 1024 16384))) || (hdrGood ds (512 * b) && decide (fld ds (512 * b + 24) 8 = (b : Int)) && decide (fld ds (512 * b + 88) 4 = crc32 (pcs ds (512 * f) 16384)))) with | true => rw [hq] at h8; exact Bool.noConfusion h8 | false => rfl
  refine sq ?_
  refine rg ?_
  refine la H rfl ag24_5 rfl rfl rfl ?_
  refine sa H rfl rfl ag24_5 rfl rfl (by decide) (by omega) rfl ?_
  clear H; intro w4 H _
  refine asg (v := .bool _) rfl rfl ?_
  refine nl ?_
  refine then_n ?_
  refine rt ?_
  refine then_r ?_
  refine finR_r ?_
  exact ⟨[_, _], ⟨finC rfl (H.look (b := b1)) ag24_5, rfl, trivial⟩, H.fr, _, by rw [hgg]; rfl, fun h => by rw [h] at hgg; exact Bool.noConfusion hgg, fun h1 h2 => by rw [h1, h2] at hgg; exact Bool.noConfusion hgg, fun _ _ => rfl⟩
 ·have hgg : ((hdrGood ds 512 && decide (fld ds 600 4 = crc32 (pcs ds 1024 16384))) || (hdrGood ds (512 * b) && decide (fld ds (512 * b + 24) 8 = (b : Int)) && decide (fld ds (512 * b + 88) 4 = crc32 (pcs ds (512 * f) 16384)))) = true := by have h8 : (!((hdrGood ds 512 && decide (fld ds 600 4 = crc32 (pcs ds 1024 16384))) || (hdrGood ds (512 * b) && decide (fld ds (512 * b + 24) 8 = (b : Int)) && decide (fld ds (512 * b + 88) 4 = crc32 (pcs ds (512 * f) 16384))))) = false := hc1; cases hq : ((hdrGood ds 512 && decide (fld ds 600 4 = crc32 (pcs ds 1024 16384))) || (hdrGood ds (512 * b) && decide (fld ds (512 * b + 24) 8 = (b : Int)) && decide (fld ds (512 * b + 88) 4 = crc32 (pcs ds (512 * f) 16384)))) with | false => rw [hq] at h8; exact Bool.noConfusion h8 | true => rfl
  have hX : ∃ p D cap l qs g pr rb crc my oth fi lx f2, A9 = some ⟨p, 0, none⟩ ∧ l.map Prod.snd = qs.map pc ∧ l.length ≤ 128 ∧ w3.heap[p]? = some (.cells (tbC D l.length cap 512 512 g pr rb 128 128 f2 crc my oth fi lx true).toArray 99 (0, 0)) ∧ PR 103 w3 D l ∧ ((hdrGood ds 512 && decide (fld ds 600 4 = crc32 (pcs ds 1024 16384))) = true → g = gT (pcs ds 568 16) ∧ pr = protB (pcs ds 0 512) (fld ds 544 8 % 4294967296) ∧ rb = false ∧ qs = usedP (pcs ds 1024 16384) 128) ∧ ((hdrGood ds 512 && decide (fld ds 600 4 = crc32 (pcs ds 1024 16384))) = false → g = gT (pcs ds (512 * b + 56) 16) ∧ pr = protB (pcs ds 0 512) ((fld ds (512 * b + 24) 8) % 4294967296) ∧ rb = true ∧ qs = usedP (pcs ds (512 * f) 16384) 128) := by
   cases hq1 : (hdrGood ds 512 && decide (fld ds 600 4 = crc32 (pcs ds 1024 16384))) with
   | true =>
    obtain ⟨p, hp, D, cap, l, k1, k2, O⟩ := hr1 hq1
    exact ⟨p, D, cap, l, _, _, _, _, _, _, _, _, _, _, hp, k1.trans (usedC_P _ _), k2, O.sh.look (b := p), O.pr (fun x hx => .tail _ hx), fun _ => ⟨rfl, rfl, rfl, rfl⟩, fun h => by exact Bool.noConfusion h⟩
   | false =>
    rw [hq1, Bool.false_or] at hgg
    obtain ⟨p, hp, D, cap, l, k1, k2, O⟩ := hr2 hq1 hgg
    exact ⟨p, D, cap, l, _, _, _, _, _, _, _, _, _, _, hp, k1.trans (usedC_P _ _), k2, O.sh.look (b := p), O.pr (fun x hx => .tail _ hx), fun h => by exact Bool.noConfusion h, fun _ => ⟨rfl, rfl, rfl, rfl⟩⟩
  obtain ⟨p, D, cap, l, qs, g, pr, rb, crc, my, oth, fi, lx, f2, rfl, k1, k2, hp, hpr, q1, q2⟩ := hX
  have hql : qs.length = l.length := by have := congrArg List.length k1; simpa using this.symm
  refine sk ?_
  refine then_n ?_
  refine sq ?_
  refine rg ?_
  refine mv (v := .pointer _) rfl rfl ?_
  refine cl ca31 (c_told _ p D cap l qs g pr rb _ _ _ _ _ _ _ _ _ hp hpr k1 (by omega)) rfl ?_
  rintro _ w5 ⟨D2, cap2, rfl, O⟩
  replace O := O.joinN H (by simp)
  simp only [List.append_nil] at O
  replace H := O.sh
  refine sa (cs' := gtCells D2 l.length cap2 512 g pr rb) H rfl rfl ag24_5 rfl rfl (by show 0 + 5 ≤ 5; decide) (by omega) rfl ?_
  intro w96 H96 F96; replace O := O.put F96 H96.look; clear H H96 F96; have H := O.sh
  refine asg (v := .bool _) rfl rfl ?_
  refine nl ?_
  refine then_n ?_
  refine rt ?_
  refine finR_r ?_
  refine ⟨[_, _], ⟨finC rfl (H.look (b := b1)) ag24_5, rfl, trivial⟩, H.fr, _, by rw [hgg]; rfl, fun h => ?_, fun h1 h2 => ?_, fun h1 h2 => by rw [h1, h2] at hgg; exact Bool.noConfusion hgg⟩
  ·obtain ⟨rfl, rfl, rfl, rfl⟩ := q1 h
   rw [hql]
   exact ⟨D2, cap2, rfl, O.sub (List.nil_sublist _)⟩
  ·obtain ⟨rfl, rfl, rfl, rfl⟩ := q2 h1
   rw [hql]
   exact ⟨D2, cap2, rfl, O.sub (List.nil_sublist _)⟩
end Go.Proofs.YthcaejaaalkglaaDoor.X
/- Walks of functions, printed by a program of this claim. -/
namespace Go.Proofs.YthcaejaaalkglaaDoor.X
set_option linter.unusedVariables false
set_option linter.unusedSimpArgs false
open Go Go.RowKit
namespace PF
theorem ca22 : callable Tryd.prog 22 = true := by kernel_rfl
theorem ca32 : callable Tryd.prog 32 = true := by kernel_rfl
theorem fo49_3 : fieldOff Tryd.prog 49 3 = some 3 := by kernel_rfl
end PF
open PF
set_option maxRecDepth 100000 in
set_option maxHeartbeats 1000000 in
theorem c_samePart (w : World) (p q : GP) : Calls Tryd.prog 32 #[.agg p.cells.toArray, .agg q.cells.toArray] w (Ret fun v w' => v = .bool (sameP p q) ∧ Fr [] w w') := by
 refine enter (fun ρ => ρ 4) Tryd.func32 rfl rfl rfl (res1 rfl) ?_
 have H := SH.nil w
 refine sq ?_
 refine rg ?_
 refine bx (v := .agg _) H rfl rfl rfl ?_
 clear H; intro b1 w1 hb1 H _
 refine bx (v := .agg _) H rfl rfl rfl ?_
 clear H; intro b2 w2 hb2 H _
 refine asg (v := .bool _) rfl rfl ?_
 refine nl ?_
 refine then_n ?_
 refine sq ?_
 refine rg ?_
 refine fa rfl fo49_0 rfl ?_
 refine ld H rfl sc3 rfl rfl ?_
 refine fa rfl fo49_0 rfl ?_
 refine ld H rfl sc3 rfl rfl ?_
 refine eql rfl rfl rfl ?_
 refine mv (v := .bool _) rfl rfl ?_
 refine spd (t := 10) rfl (fun hg1 => ?_) (fun hg1 => ?_)
 ·refine gy rfl ?_
  refine fa rfl fo49_1 rfl ?_
  refine gy rfl ?_
  refine ld H rfl sc28 rfl rfl ?_
  refine gy rfl ?_
  refine fa rfl fo49_1 rfl ?_
  refine gy rfl ?_
  refine ld H rfl sc28 rfl rfl ?_
  refine gy rfl ?_
  refine eql rfl rfl rfl ?_
  refine pkT (v := .bool _) rfl rfl rfl ?_
  refine mv (v := .bool _) rfl rfl ?_
  refine spd (t := 17) rfl (fun hg2 => ?_) (fun hg2 => ?_)
  ·refine gy rfl ?_
   refine fa rfl fo49_2 rfl ?_
   refine gy rfl ?_
   refine ld H rfl sc28 rfl rfl ?_
   refine gy rfl ?_
   refine fa rfl fo49_2 rfl ?_
   refine gy rfl ?_
   refine ld H rfl sc28 rfl rfl ?_
   refine gy rfl ?_
   refine eql rfl rfl rfl ?_
   refine pkT (v := .bool _) rfl rfl rfl ?_
   refine mv (v := .bool _) rfl rfl ?_
   refine spd (t := 24) rfl (fun hg3 => ?_) (fun hg3 => ?_)
   ·refine gy rfl ?_
    refine fa rfl fo49_3 rfl ?_
    refine gy rfl ?_
    refine ld H rfl sc28 rfl rfl ?_
    refine gy rfl ?_
    refine fa rfl fo49_3 rfl ?_
    refine gy rfl ?_
    refine ld H rfl sc28 rfl rfl ?_
    refine gy rfl ?_
    refine eql rfl rfl rfl ?_
    refine pkT (v := .bool _) rfl rfl rfl ?_
    refine mv (v := .bool _) rfl rfl ?_
    refine spd (t := 31) rfl (fun hg4 => ?_) (fun hg4 => ?_)
    ·refine gy rfl ?_
     refine fa rfl fo49_4 rfl ?_
     refine gy rfl ?_
     refine ld H rfl sc9 rfl rfl ?_
     refine gy rfl ?_
     refine fa rfl fo49_4 rfl ?_
     refine gy rfl ?_
     refine ld H rfl sc9 rfl rfl ?_
     refine gy rfl ?_
     refine cl ca22 (c_sameGuid _ _ _) rfl ?_
     rintro _ w3 ⟨rfl, F⟩
     replace H := H.keep F; clear F
     refine pkT (v := .bool _) rfl rfl rfl ?_
     refine mv (v := .bool _) rfl rfl ?_
     refine sp (t := 38) rfl (fun hg5 => ?_) (fun hg5 => ?_)
     ·refine gy rfl ?_
      refine fa rfl fo49_6 rfl ?_
      refine gy rfl ?_
      refine ld H rfl sc9 rfl rfl ?_
      refine gy rfl ?_
      refine fa rfl fo49_6 rfl ?_
      refine gy rfl ?_
      refine ld H rfl sc9 rfl rfl ?_
      refine gy rfl ?_
      refine cl ca22 (c_sameGuid _ _ _) rfl ?_
      rintro _ w4 ⟨rfl, F⟩
      replace H := H.keep F; clear F
      refine pkT (v := .bool _) rfl rfl rfl ?_
      refine mv (v := .bool _) rfl rfl ?_
      refine sp (t := 45) rfl (fun hg6 => ?_) (fun hg6 => ?_)
      ·refine gy rfl ?_
       refine fa rfl fo49_5 rfl ?_
       refine gy rfl ?_
       refine ld H rfl sc9 rfl rfl ?_
       refine gy rfl ?_
       refine fa rfl fo49_5 rfl ?_
       refine gy rfl ?_
       refine ld H rfl sc9 rfl rfl ?_
       refine gy rfl ?_
       refine eqlT rfl rfl rfl ?_
       refine pkT (v := .bool _) rfl rfl rfl ?_
       refine mv (v := .bool _) rfl rfl ?_
       refine spd (t := 52) rfl (fun hg7 => ?_) (fun hg7 => ?_)
       ·refine gy rfl ?_
        refine fa rfl fo49_7 rfl ?_
        refine gy rfl ?_
        refine ld H rfl sc28 rfl rfl ?_
        refine gy rfl ?_
        refine fa rfl fo49_7 rfl ?_
        refine gy rfl ?_
        refine ld H rfl sc28 rfl rfl ?_
        refine gy rfl ?_
        refine eql rfl rfl rfl ?_
        refine pkT (v := .bool _) rfl rfl rfl ?_
        refine asg (v := .bool _) rfl rfl ?_
        refine nl ?_
        refine then_n ?_
        refine rt ?_
        refine fin_r ?_
        refine ⟨congrArg Value.bool ?_, H.fr⟩
        (simp [sameP, hg1, hg2, hg3, hg4, hg5, hg6, hg7]; done)
       ·refine gn rfl rfl ?_
        refine gn rfl rfl ?_
        refine gn rfl rfl ?_
        refine gn rfl rfl ?_
        refine gn rfl rfl ?_
        refine pkF (v := .bool _) rfl rfl rfl ?_
        refine asg (v := .bool _) rfl rfl ?_
        refine nl ?_
        refine then_n ?_
        refine rt ?_
        refine fin_r ?_
        refine ⟨congrArg Value.bool ?_, H.fr⟩
        (simp [sameP, hg1, hg2, hg3, hg4, hg5, hg6, hg7]; done)
      ·refine gn rfl rfl ?_
       refine gn rfl rfl ?_
       refine gn rfl rfl ?_
       refine gn rfl rfl ?_
       refine gn rfl rfl ?_
       refine pkF (v := .bool _) rfl rfl rfl ?_
       refine mv (v := .bool _) rfl rfl ?_
       refine gn rfl rfl ?_
       refine gn rfl rfl ?_
       refine gn rfl rfl ?_
       refine gn rfl rfl ?_
       refine gn rfl rfl ?_
       refine pkF (v := .bool _) rfl rfl rfl ?_
       refine asg (v := .bool _) rfl rfl ?_
       refine nl ?_
       refine then_n ?_
       refine rt ?_
       refine fin_r ?_
       refine ⟨congrArg Value.bool ?_, H.fr⟩
       (simp [sameP, hg1, hg2, hg3, hg4, hg5, hg6]; done)
     ·refine gn rfl rfl ?_
      refine gn rfl rfl ?_
      refine gn rfl rfl ?_
      refine gn rfl rfl ?_
      refine gn rfl rfl ?_
      refine pkF (v := .bool _) rfl rfl rfl ?_
      refine mv (v := .bool _) rfl rfl ?_
      refine gn rfl rfl ?_
      refine gn rfl rfl ?_
      refine gn rfl rfl ?_
      refine gn rfl rfl ?_
      refine gn rfl rfl ?_
      refine pkF (v := .bool _) rfl rfl rfl ?_
      refine mv (v := .bool _) rfl rfl ?_
      refine gn rfl rfl ?_
      refine gn rfl rfl ?_
      refine gn rfl rfl ?_
      refine gn rfl rfl ?_
      refine gn rfl rfl ?_
      refine pkF (v := .bool _) rfl rfl rfl ?_
      refine asg (v := .bool _) rfl rfl ?_
      refine nl ?_
      refine then_n ?_
      refine rt ?_
      refine fin_r ?_
      refine ⟨congrArg Value.bool ?_, H.fr⟩
      (simp [sameP, hg1, hg2, hg3, hg4, hg5]; done)
    ·refine gn rfl rfl ?_
     refine gn rfl rfl ?_
     refine gn rfl rfl ?_
     refine gn rfl rfl ?_
     refine gn rfl rfl ?_
     refine pkF (v := .bool _) rfl rfl rfl ?_
     refine mv (v := .bool _) rfl rfl ?_
     refine gn rfl rfl ?_
     refine gn rfl rfl ?_
     refine gn rfl rfl ?_
     refine gn rfl rfl ?_
     refine gn rfl rfl ?_
     refine pkF (v := .bool _) rfl rfl rfl ?_
     refine mv (v := .bool _) rfl rfl ?_
     refine gn rfl rfl ?_
     refine gn rfl rfl ?_
     refine gn rfl rfl ?_
     refine gn rfl rfl ?_
     refine gn rfl rfl ?_
     refine pkF (v := .bool _) rfl rfl rfl ?_
     refine mv (v := .bool _) rfl rfl ?_
     refine gn rfl rfl ?_
     refine gn rfl rfl ?_
     refine gn rfl rfl ?_
     refine gn rfl rfl ?_
     refine gn rfl rfl ?_
     refine pkF (v := .bool _) rfl rfl rfl ?_
     refine asg (v := .bool _) rfl rfl ?_
     refine nl ?_
     refine then_n ?_
     refine rt ?_
     refine fin_r ?_
     refine ⟨congrArg Value.bool ?_, H.fr⟩
     (simp [sameP, hg1, hg2, hg3, hg4]; done)
   ·refine gn rfl rfl ?_
    refine gn rfl rfl ?_
    refine gn rfl rfl ?_
    refine gn rfl rfl ?_
    refine gn rfl rfl ?_
    refine pkF (v := .bool _) rfl rfl rfl ?_
    refine mv (v := .bool _) rfl rfl ?_
    refine gn rfl rfl ?_
    refine gn rfl rfl ?_
    refine gn rfl rfl ?_
    refine gn rfl rfl ?_
    refine gn rfl rfl ?_
    refine pkF (v := .bool _) rfl rfl rfl ?_
    refine mv (v := .bool _) rfl rfl ?_
    refine gn rfl rfl ?_
    refine gn rfl rfl ?_
    refine gn rfl rfl ?_
    refine gn rfl rfl ?_
    refine gn rfl rfl ?_
    refine pkF (v := .bool _) rfl rfl rfl ?_
    refine mv (v := .bool _) rfl rfl ?_
    refine gn rfl rfl ?_
    refine gn rfl rfl ?_
    refine gn rfl rfl ?_
    refine gn rfl rfl ?_
    refine gn rfl rfl ?_
    refine pkF (v := .bool _) rfl rfl rfl ?_
    refine mv (v := .bool _) rfl rfl ?_
    refine gn rfl rfl ?_
    refine gn rfl rfl ?_
    refine gn rfl rfl ?_
    refine gn rfl rfl ?_
    refine gn rfl rfl ?_
    refine pkF (v := .bool _) rfl rfl rfl ?_
    refine asg (v := .bool _) rfl rfl ?_
    refine nl ?_
    refine then_n ?_
    refine rt ?_
    refine fin_r ?_
    refine ⟨congrArg Value.bool ?_, H.fr⟩
    (simp [sameP, hg1, hg2, hg3]; done)
  ·refine gn rfl rfl ?_
   refine gn rfl rfl ?_
   refine gn rfl rfl ?_
   refine gn rfl rfl ?_
   refine gn rfl rfl ?_
   refine pkF (v := .bool _) rfl rfl rfl ?_
   refine mv (v := .bool _) rfl rfl ?_
   refine gn rfl rfl ?_
   refine gn rfl rfl ?_
   refine gn rfl rfl ?_
   refine gn rfl rfl ?_
   refine gn rfl rfl ?_
   refine pkF (v := .bool _) rfl rfl rfl ?_
   refine mv (v := .bool _) rfl rfl ?_
   refine gn rfl rfl ?_
   refine gn rfl rfl ?_
   refine gn rfl rfl ?_
   refine gn rfl rfl ?_
   refine gn rfl rfl ?_
   refine pkF (v := .bool _) rfl rfl rfl ?_
   refine mv (v := .bool _) rfl rfl ?_
   refine gn rfl rfl ?_
   refine gn rfl rfl ?_
   refine gn rfl rfl ?_
   refine gn rfl rfl ?_
   refine gn rfl rfl ?_
   refine pkF (v := .bool _) rfl rfl rfl ?_
   refine mv (v := .bool _) rfl rfl ?_
   refine gn rfl rfl ?_
   refine gn rfl rfl ?_
   refine gn rfl rfl ?_
   refine gn rfl rfl ?_
   refine gn rfl rfl ?_
   refine pkF (v := .bool _) rfl rfl rfl ?_
   refine mv (v := .bool _) rfl rfl ?_
   refine gn rfl rfl ?_
   refine gn rfl rfl ?_
   refine gn rfl rfl ?_
   refine gn rfl rfl ?_
   refine gn rfl rfl ?_
   refine pkF (v := .bool _) rfl rfl rfl ?_
   refine asg (v := .bool _) rfl rfl ?_
   refine nl ?_
   refine then_n ?_
   refine rt ?_
   refine fin_r ?_
   refine ⟨congrArg Value.bool ?_, H.fr⟩
   (simp [sameP, hg1, hg2]; done)
 ·refine gn rfl rfl ?_
  refine gn rfl rfl ?_
  refine gn rfl rfl ?_
  refine gn rfl rfl ?_
  refine gn rfl rfl ?_
  refine pkF (v := .bool _) rfl rfl rfl ?_
  refine mv (v := .bool _) rfl rfl ?_
  refine gn rfl rfl ?_
  refine gn rfl rfl ?_
  refine gn rfl rfl ?_
  refine gn rfl rfl ?_
  refine gn rfl rfl ?_
  refine pkF (v := .bool _) rfl rfl rfl ?_
  refine mv (v := .bool _) rfl rfl ?_
  refine gn rfl rfl ?_
  refine gn rfl rfl ?_
  refine gn rfl rfl ?_
  refine gn rfl rfl ?_
  refine gn rfl rfl ?_
  refine pkF (v := .bool _) rfl rfl rfl ?_
  refine mv (v := .bool _) rfl rfl ?_
  refine gn rfl rfl ?_
  refine gn rfl rfl ?_
  refine gn rfl rfl ?_
  refine gn rfl rfl ?_
  refine gn rfl rfl ?_
  refine pkF (v := .bool _) rfl rfl rfl ?_
  refine mv (v := .bool _) rfl rfl ?_
  refine gn rfl rfl ?_
  refine gn rfl rfl ?_
  refine gn rfl rfl ?_
  refine gn rfl rfl ?_
  refine gn rfl rfl ?_
  refine pkF (v := .bool _) rfl rfl rfl ?_
  refine mv (v := .bool _) rfl rfl ?_
  refine gn rfl rfl ?_
  refine gn rfl rfl ?_
  refine gn rfl rfl ?_
  refine gn rfl rfl ?_
  refine gn rfl rfl ?_
  refine pkF (v := .bool _) rfl rfl rfl ?_
  refine mv (v := .bool _) rfl rfl ?_
  refine gn rfl rfl ?_
  refine gn rfl rfl ?_
  refine gn rfl rfl ?_
  refine gn rfl rfl ?_
  refine gn rfl rfl ?_
  refine pkF (v := .bool _) rfl rfl rfl ?_
  refine asg (v := .bool _) rfl rfl ?_
  refine nl ?_
  refine then_n ?_
  refine rt ?_
  refine fin_r ?_
  refine ⟨congrArg Value.bool ?_, H.fr⟩
  (simp [sameP, hg1]; done)
set_option maxRecDepth 100000 in
set_option maxHeartbeats 1000000 in
theorem c_sameGpt (w : World) (D1 D2 : Option Addr) (m1 c1 m2 c2 : Nat) (g1 g2 : List UInt8) (pr1 rc1 pr2 rc2 : Bool) (ps qs : List GP) (h1 : RG w D1 m1 c1 ps) (h2 : RG w D2 m2 c2 qs) (hm : m1 ≤ 1000) : Calls Tryd.prog 13 #[.agg (gtCells D1 m1 c1 512 g1 pr1 rc1).toArray, .agg (gtCells D2 m2 c2 512 g2 pr2 rc2).toArray] w (Ret fun v w' => v = .bool (sameT g1 g2 ps qs) ∧ Fr [] w w') := by
 refine enter (fun ρ => ρ 4) Tryd.func13 rfl rfl rfl (res1 rfl) ?_
 have H := SH.nil w
 have hl1 := h1.len
 have hl2 := h2.len
 refine sq ?_
 refine rg ?_
 refine bx (v := .agg _) H rfl rfl rfl ?_
 clear H; intro b1 w1 hb1 H _
 refine bx (v := .agg _) H rfl rfl rfl ?_
 clear H; intro b2 w2 hb2 H _
 refine asg (v := .bool _) rfl rfl ?_
 refine nl ?_
 refine then_n ?_
 refine sq ?_
 refine sq ?_
 refine rg ?_
 refine fa rfl fo24_2 rfl ?_
 refine ld H rfl sc9 rfl rfl ?_
 refine fa rfl fo24_2 rfl ?_
 refine ld H rfl sc9 rfl rfl ?_
 refine cl ca22 (c_sameGuid _ _ _) rfl ?_
 rintro _ w3 ⟨rfl, F⟩
 replace H := H.keep F; clear F
 refine unot rfl rfl ?_
 refine mv (v := .bool _) rfl rfl ?_
 refine sp (t := 13) rfl (fun hg1 => ?_) (fun hg1 => ?_)
 ·refine gn rfl rfl ?_
  refine gn rfl rfl ?_
  refine gn rfl rfl ?_
  refine gn rfl rfl ?_
  refine gn rfl rfl ?_
  refine gn rfl rfl ?_
  refine gn rfl rfl ?_
  refine pkT (v := .bool _) rfl rfl rfl ?_
  refine nl ?_
  refine then_n ?_
  refine cbT rfl rfl ?_
  refine sq ?_
  refine rg ?_
  refine asg (v := .bool _) rfl rfl ?_
  refine nl ?_
  refine then_n ?_
  refine rt ?_
  refine then_r ?_
  refine fin_r ?_
  have hz : sameG g1 g2 = false := by simpa using hg1
  exact ⟨congrArg Value.bool (by unfold sameT; rw [hz]; rfl), H.fr⟩
 ·refine gy rfl ?_
  refine fa rfl fo24_0 rfl ?_
  refine gy rfl ?_
  refine ld H rfl sc22 rfl rfl ?_
  refine gy rfl ?_
  refine lnS rfl Tryd.underlying22 rfl ?_
  refine gy rfl ?_
  refine fa rfl fo24_0 rfl ?_
  refine gy rfl ?_
  refine ld H rfl sc22 rfl rfl ?_
  refine gy rfl ?_
  refine lnS rfl Tryd.underlying22 rfl ?_
  refine gy rfl ?_
  refine neq rfl rfl rfl ?_
  refine pkF (v := .bool _) rfl rfl rfl ?_
  refine nl ?_
  refine then_n ?_
  refine cd rfl (fun hc1 => ?_) (fun hc1 => ?_)
  ·refine sq ?_
   refine rg ?_
   refine asg (v := .bool _) rfl rfl ?_
   refine nl ?_
   refine then_n ?_
   refine rt ?_
   refine then_r ?_
   refine fin_r ?_
   exact ⟨congrArg Value.bool (by unfold sameT; rw [decide_eq_false (p := ps.length = qs.length) (by omega)]; simp), H.fr⟩
  ·refine sk ?_
   refine then_n ?_
   refine sq ?_
   refine sq ?_
   refine rg ?_
   refine fa rfl fo24_0 rfl ?_
   refine ld H rfl sc22 rfl rfl ?_
   refine lnS rfl Tryd.underlying22 rfl ?_
   refine mv (v := .int .i64 _) rfl rfl ?_
   refine nl ?_
   refine then_n ?_
   refine bk ?_
   refine lpM (α := Nat) [4, 5, 6, 25, 26, 27, 28, 29, 30, 31, 32, 33, 34, 35, 36, 37, 38] (fun i => [(25, .int .i64 (i : Int))]) (fun i w' => i ≤ m1 ∧ (∀ j p q, j < i → ps[j]? = some p → qs[j]? = some q → sameP p q = true) ∧ SH w [] w' [⟨b2, .cells (gtCells D2 m2 c2 512 g2 pr2 rc2).toArray 24 (0, 0), true⟩, ⟨b1, .cells (gtCells D1 m1 c1 512 g1 pr1 rc1).toArray 24 (0, 0), true⟩]) (fun i => m1 - i) 0 ?_ (fCX (fN _)) ?_
   ·exact ⟨by omega, fun j p q hj => by omega, H⟩
   ·rintro i ρx w4 ⟨hi, hs, H⟩
    refine sq ?_
    refine rg ?_
    refine lss rfl rfl rfl ?_
    refine nl ?_
    refine then_n ?_
    refine sq ?_
    refine cd rfl (fun hc2 => ?_) (fun hc2 => ?_)
    ·obtain ⟨p, hpi⟩ : ∃ p, ps[i]? = some p := ⟨_, List.getElem?_eq_getElem (by omega)⟩
     obtain ⟨q, hqi⟩ : ∃ q, qs[i]? = some q := ⟨_, List.getElem?_eq_getElem (by omega)⟩
     obtain ⟨ad, rfl⟩ := h1.some_of (by omega)
     obtain ⟨ad2, rfl⟩ := h2.some_of (by omega)
     refine sk ?_
     refine then_n ?_
     refine sq ?_
     refine bk ?_
     refine sq ?_
     refine rg ?_
     refine mv (v := .int .i64 _) rfl rfl ?_
     refine iBN (ad.add (i * 8)) rfl rfl Tryd.underlying22 sz49_8 (by omega) (by simp) rfl ?_
     refine lw (vs := p.cells) rfl ag49_8 rfl (fun j v h => H.fr.cell (h1.elem hpi j v h) (by simp)) rfl ?_
     refine al H ze49 rfl ?_
     clear H; intro b3 w5 hb3 H _
     refine asg (v := .int .i64 _) rfl rfl ?_
     refine sa (cs' := p.cells) H rfl rfl ag49_8 rfl rfl (by decide) (by omega) rfl ?_
     clear H; intro w35 H _
     refine nl ?_
     refine then_n ?_
     refine sq ?_
     refine dr (by kernel_rfl) ?_
     have H := H.drew
     refine hold (fun _ => True) [] ?_
     refine tk (i := 1) rfl (by kernel_rfl) rfl trivial (fun _ _ => r_fa rfl fo24_0) ?_
     refine tk (i := 3) rfl (by kernel_rfl) rfl trivial (fun _ _ => r_mv (v := .int .i64 _) rfl) ?_
     refine unfree ?_
     refine holdH H [] ?_
     refine tk (i := 0) rfl (by kernel_rfl) rfl H (fun w' H => r_la (vs := p.cells) H rfl ag49_8 rfl rfl) ?_
     refine tk (i := 2) rfl (by kernel_rfl) rfl H (fun w' H => r_ld H rfl sc22 rfl) ?_
     refine tk (i := 4) rfl (by kernel_rfl) rfl H (fun w' H => r_iBN (ad2.add (i * 8)) rfl rfl Tryd.underlying22 sz49_8 (by omega) (by simp)) ?_
     refine tk (i := 5) rfl (by kernel_rfl) rfl H (fun w' H => r_lw (vs := q.cells) rfl ag49_8 rfl (fun j v h => H.fr.cell (h2.elem hqi j v h) (by simp))) ?_
     refine fk (i := 6) (by kernel_rfl) rfl rfl rfl ?_
     refine cl ca32 (c_samePart _ p q) rfl ?_
     rintro _ w6 ⟨rfl, F⟩
     replace H := H.keep F; clear F
     refine nl ?_
     refine then_n ?_
     refine ⟨H, ?_⟩
     refine tk (i := 7) rfl (by kernel_rfl) rfl H (fun w' H => r_unot rfl) ?_
     refine da (by kernel_rfl) ?_
     refine then_n ?_
     refine cn rfl (fun hc3 => ?_) (fun hc3 => ?_)
     ·refine sq ?_
      refine rg ?_
      refine asg (v := .bool _) rfl rfl ?_
      refine nl ?_
      refine then_n ?_
      refine rt ?_
      refine in_r ?_
      refine then_r ?_
      refine loop_r ?_
      refine in_r ?_
      refine then_r ?_
      refine fin_r ?_
      exact ⟨congrArg Value.bool (sameT_f hpi hqi (by simpa using hc3)).symm, H.fr⟩
     ·refine sk ?_
      refine in_n ?_
      refine then_n ?_
      refine rg ?_
      refine add rfl rfl (by first | exact w_i64 (by omega) | exact w_i64 (rng_i64 _) | rfl) rfl ?_
      refine mv (v := .int .i64 _) rfl rfl ?_
      refine nl ?_
      refine loop_n ?_
      exact ⟨i + 1, (by (try dsimp only); omega), ⟨by omega, sameS_next hs hpi hqi (by simpa using hc3), H.subX⟩, (fCX (fN _)), agX⟩
    ·refine ex ?_
     refine then_e ?_
     refine loop_e ?_
     refine in_hit rfl ?_
     refine then_n ?_
     refine sq ?_
     refine rg ?_
     refine asg (v := .bool _) rfl rfl ?_
     refine nl ?_
     refine then_n ?_
     refine rt ?_
     refine fin_r ?_
     obtain rfl : i = m1 := by omega
     exact ⟨congrArg Value.bool (sameT_t (by simpa using hg1) (by omega) (fun j p q hj => hs j p q (by omega))).symm, H.fr⟩
end Go.Proofs.YthcaejaaalkglaaDoor.X
/- Walks of functions, printed by a program of this claim. -/
namespace Go.Proofs.YthcaejaaalkglaaDoor.X
set_option linter.unusedVariables false
set_option linter.unusedSimpArgs false
open Go Go.RowKit
open PF
set_option maxRecDepth 100000 in
set_option maxHeartbeats 1000000 in
theorem c_used (w : World) (D : Option Addr) (m c : Nat) (g : List UInt8) (pr rc : Bool) (ps : List GP) (hq : RG w D m c ps) (hm : m ≤ 200) : Calls Tryd.prog 14 #[.agg (gtCells D m c 512 g pr rc).toArray] w (Ret fun v w' => ∃ D2 cap2, v = .agg (gtCells D2 (keepP ps).length cap2 512 g pr rc).toArray ∧ OR 49 8 w [] w' [] D2 (keepP ps).length cap2 ((keepP ps).flatMap GP.cells)) := by
 refine enterR [.cell 2 24] Tryd.func14 rfl rfl rfl rfl ?_
 have H := SH.nil w
 have hql := hq.len
 have hkl := keepP_le ps
 refine sq ?_
 refine rg ?_
 refine bx (v := .agg _) H rfl rfl rfl ?_
 clear H; intro b1 w1 hb1 H _
 refine al H ze24 rfl ?_
 clear H; intro b2 w2 hb2 H _
 refine nl ?_
 refine then_n ?_
 refine sq ?_
 refine rg ?_
 refine asg (v := .slice _ _ _) rfl rfl ?_
 refine nl ?_
 refine then_n ?_
 refine sq ?_
 refine sq ?_
 refine rg ?_
 refine fa rfl fo24_0 rfl ?_
 refine ld H rfl sc22 rfl rfl ?_
 refine lnS rfl Tryd.underlying22 rfl ?_
 refine mv (v := .int .i64 _) rfl rfl ?_
 refine nl ?_
 refine then_n ?_
 refine bk ?_
 refine lpM (α := Nat × Option Addr × Nat) [3, 5, 9, 10, 11, 12, 13, 14, 15, 16, 17, 18, 19, 20, 21] (fun (i, D2, cap2) => [(3, .slice D2 (keepP (ps.take i)).length cap2), (9, .int .i64 (i : Int))]) (fun (i, D2, cap2) w' => i ≤ m ∧ OR 49 8 w [] w' [⟨b2, .cells (gtCells none 0 0 0 [] false false).toArray 24 (0, 0), true⟩, ⟨b1, .cells (gtCells D m c 512 g pr rc).toArray 24 (0, 0), true⟩] D2 (keepP (ps.take i)).length cap2 ((keepP (ps.take i)).flatMap GP.cells)) (fun (i, D2, cap2) => m - i) (0, none, 0) ?_ (fCX (fCX (fN _))) ?_
 ·exact ⟨by omega, OR.nil H⟩
 ·rintro ⟨i, D2, cap2⟩ ρx w3 ⟨hi, O⟩
  have H := O.sh
  have hkt : (keepP (ps.take i)).length ≤ i := Nat.le_trans (keepP_le _) (by simp; omega)
  refine sq ?_
  refine rg ?_
  refine lss rfl rfl rfl ?_
  refine nl ?_
  refine then_n ?_
  refine sq ?_
  refine cd rfl (fun hc1 => ?_) (fun hc1 => ?_)
  ·obtain ⟨p, hpi⟩ : ∃ p, ps[i]? = some p := ⟨_, List.getElem?_eq_getElem (by omega)⟩
   obtain ⟨ad, rfl⟩ := hq.some_of (by omega)
   refine sk ?_
   refine then_n ?_
   refine sq ?_
   refine bk ?_
   refine sq ?_
   refine rg ?_
   refine iBN (ad.add (i * 8)) rfl rfl Tryd.underlying22 sz49_8 (by omega) (by simp) rfl ?_
   refine lw (vs := p.cells) rfl ag49_8 rfl (fun j v h => H.fr.cell (hq.elem hpi j v h) (by simp)) rfl ?_
   refine al H ze49 rfl ?_
   intro b3 w4 hb3 H1 F; replace O := O.new F hb3 H1.look; clear H H1 F; have H := O.sh
   refine sa (cs' := p.cells) H rfl rfl ag49_8 rfl rfl (by decide) (by omega) rfl ?_
   intro w35 H1 F; replace O := O.put F H1.look; clear H H1 F; have H := O.sh
   refine nl ?_
   refine then_n ?_
   refine sq ?_
   refine rg ?_
   refine fa rfl fo49_4 rfl ?_
   refine ld H rfl sc9 rfl rfl ?_
   refine cl ca22 (c_sameGuid _ p.ty zG) rfl ?_
   rintro _ w5 ⟨rfl, F⟩
   replace H := H.keep F; replace O := O.keep F; clear F
   refine unot rfl rfl ?_
   refine nl ?_
   refine then_n ?_
   refine cn rfl (fun hc2 => ?_) (fun hc2 => ?_)
   ·have hkp : sameG p.ty zG = false := by simpa using hc2
    refine rg ?_
    refine mv (v := .slice _ _ _) rfl rfl ?_
    refine la (vs := p.cells) H rfl ag49_8 rfl rfl rfl ?_
    refine bsl (sz := 8) (out := ?o1) H Tryd.underlying22 ze49 sz49_8 (by decide) ?f1 rfl ?_
    case f1 =>
     refine FS.agg (vs := _) rfl rfl (by first | decide | simp) ?_
     exact FS.nil
    intro b4 w6 hb4 H1 F; replace O := O.new F hb4 H1.look; clear H H1 F; have H := O.sh
    have hke := keepP_t hpi hkp
    refine apO (zs := [.int .i64 0, .int .u64 0, .int .u64 0, .int .u64 0, .string ⟨#[]⟩, .string ⟨#[]⟩, .string ⟨#[]⟩, .int .u64 0]) p.cells O rfl rfl Tryd.underlying22 ri49 (by first | rfl | simp) (cells_look H.look) (List.all_eq_true.1 p.cells_one) (by simp) (by omega) (by unfold maxLen; omega) rfl ?_
    clear O H; intro D9 cp9 w7 O
    replace O := O.drop; have H := O.sh
    have hkl9 : (keepP (ps.take (i + 1))).length = (keepP (ps.take i)).length + 1 := by rw [hke]; simp
    refine asg (v := .slice _ _ _) rfl rfl ?_
    refine nl ?_
    refine in_n ?_
    refine then_n ?_
    refine rg ?_
    refine add rfl rfl (by first | exact w_i64 (by omega) | exact w_i64 (rng_i64 _) | rfl) rfl ?_
    refine mv (v := .int .i64 _) rfl rfl ?_
    refine nl ?_
    refine loop_n ?_
    exact ⟨(i + 1, D9, cp9), (by (try dsimp only); omega), ⟨by omega, by rw [keepP_t hpi hkp, List.flatMap_append, List.length_append]; exact O.subX⟩, (fCX (fCX (fN _))), agX⟩
   ·have hkp : sameG p.ty zG = true := by simpa using hc2
    have hke := keepP_f hpi hkp
    have hkl9 : (keepP (ps.take (i + 1))).length = (keepP (ps.take i)).length := by rw [hke]
    refine sk ?_
    refine in_n ?_
    refine then_n ?_
    refine rg ?_
    refine add rfl rfl (by first | exact w_i64 (by omega) | exact w_i64 (rng_i64 _) | rfl) rfl ?_
    refine mv (v := .int .i64 _) rfl rfl ?_
    refine nl ?_
    refine loop_n ?_
    exact ⟨(i + 1, D2, cap2), (by (try dsimp only); omega), ⟨by omega, by rw [keepP_f hpi hkp]; exact O.subX⟩, (fCX (fCX (fN _))), agX⟩
  ·refine ex ?_
   refine then_e ?_
   refine loop_e ?_
   refine in_hit rfl ?_
   refine then_n ?_
   refine sq ?_
   refine rg ?_
   refine mv (v := .slice _ _ _) rfl rfl ?_
   refine fa rfl fo24_0 rfl ?_
   refine st (v := .slice _ _ _) H rfl rfl sc22 rfl (by show 0 + 0 < 5; decide) (by omega) ?_
   intro w95 H1 F; replace O := O.put F H1.look; clear H H1 F; have H := O.sh
   refine nl ?_
   refine then_n ?_
   refine sq ?_
   refine rg ?_
   refine la (vs := gtCells D2 (keepP (ps.take i)).length cap2 512 g pr rc) H rfl ag24_5 rfl rfl rfl ?_
   refine sa (cs' := gtCells D2 (keepP (ps.take i)).length cap2 512 g pr rc) H rfl rfl ag24_5 rfl rfl (by show 0 + 5 ≤ 5; decide) (by omega) rfl ?_
   intro w96 H96 F96; replace O := O.put F96 H96.look; clear H H96 F96; have H := O.sh
   refine nl ?_
   refine then_n ?_
   refine rt ?_
   refine finR_r ?_
   obtain rfl : i = m := by omega
   rw [List.take_of_length_le (by omega)] at O H
   exact ⟨[_], ⟨finC rfl (H.look (b := b2)) ag24_5, trivial⟩, _, _, rfl, O.sub (List.nil_sublist _)⟩
end Go.Proofs.YthcaejaaalkglaaDoor.X
/- Walks of functions, printed by a program of this claim. -/
namespace Go.Proofs.YthcaejaaalkglaaDoor.X
set_option linter.unusedVariables false
set_option linter.unusedSimpArgs false
open Go Go.RowKit
namespace PF
theorem pl24_0 : placeOf Tryd.prog 24 0 = some (0, 1) := by kernel_rfl
end PF
open PF
set_option maxRecDepth 100000 in
set_option maxHeartbeats 1000000 in
theorem c_small (w : World)  : Calls Tryd.prog 25 #[] w (Ret fun v w' => ∃ D cap, v = .agg (gtCells D 1 cap 512 gS true false).toArray ∧ OR 49 8 w [] w' [] D 1 cap pS.cells) := by
 refine enterR [.cell 0 24] Tryd.func25 rfl rfl rfl rfl ?_
 have H := SH.nil w
 refine sq ?_
 refine rg ?_
 refine al H ze24 rfl ?_
 clear H; intro b1 w1 hb1 H _
 refine nl ?_
 refine then_n ?_
 refine sq ?_
 refine rg ?_
 refine bu (out := ?o1) ze49 bo49 ?f1 rfl ?_
 case f1 =>
  refine FL.one (v := .int .i64 _) rfl pl49_0 rfl (by first | decide | simp) ?_
  refine FL.one (v := .int .u64 _) rfl pl49_1 rfl (by first | decide | simp) ?_
  refine FL.one (v := .int .u64 _) rfl pl49_2 rfl (by first | decide | simp) ?_
  refine FL.one (v := .int .u64 _) rfl pl49_3 rfl (by first | decide | simp) ?_
  refine FL.one (v := .string _) rfl pl49_4 rfl (by first | decide | simp) ?_
  refine FL.one (v := .string _) rfl pl49_5 rfl (by first | decide | simp) ?_
  refine FL.one (v := .string _) rfl pl49_6 rfl (by first | decide | simp) ?_
  exact FL.nil
 refine bsl (sz := 8) (out := ?o2) H Tryd.underlying22 ze49 sz49_8 (by decide) ?f2 rfl ?_
 case f2 =>
  refine FS.agg (vs := _) rfl rfl (by first | decide | simp) ?_
  exact FS.nil
 clear H; intro b2 w2 hb2 H F
 refine bu (out := ?o3) ze24 bo24 ?f3 rfl ?_
 case f3 =>
  refine FL.one (v := .int .i64 _) rfl pl24_1 rfl (by first | decide | simp) ?_
  refine FL.one (v := .string _) rfl pl24_2 rfl (by first | decide | simp) ?_
  refine FL.one (v := .bool _) rfl pl24_3 rfl (by first | decide | simp) ?_
  refine FL.one (v := .slice _ _ _) rfl pl24_0 rfl (by first | decide | simp) ?_
  exact FL.nil
 refine sa H rfl rfl ag24_5 rfl rfl (by decide) (by omega) rfl ?_
 clear H; intro w3 H _
 refine nl ?_
 refine then_n ?_
 refine rt ?_
 refine finR_r ?_
 have H2 : SH w [] w3 [⟨b2, .cells pS.cells.toArray 49 (0, 0), true⟩] := H.subX
 exact ⟨[_], ⟨finC rfl (H.look (b := b1)) ag24_5, trivial⟩, some ⟨b2, 0, none⟩, 1, rfl, OR.made (n := 1) (cap := 1) (cur := pS.cells) H2 (by decide) (by decide) rfl⟩
end Go.Proofs.YthcaejaaalkglaaDoor.X
/- What is read of a disk that the statements have laid. -/
namespace Go.Proofs.YthcaejaaalkglaaDoor.X
set_option linter.unusedVariables false
set_option linter.unusedSimpArgs false
open Go
theorem pcs_in {cur es : List UInt8} {o k : Nat} (hk : es.length = k) (h : o + k ≤ cur.length) : pcs (pAt cur o es) o k = es := by
  unfold pcs pAt
  have ht : (cur.take o).length = o := by simp; omega
  rw [List.append_assoc, List.drop_append, List.drop_of_length_le (by omega), List.nil_append, ht, Nat.sub_self, List.drop_zero, List.take_append, hk, Nat.sub_self, List.take_zero, List.append_nil, List.take_of_length_le (by omega)]
theorem pcs_lo {cur es : List UInt8} {o p k : Nat} (h : o + es.length ≤ cur.length) (hp : p + k ≤ o) : pcs (pAt cur o es) p k = pcs cur p k := by
  refine List.ext_getElem? fun i => ?_
  simp only [pcs, List.getElem?_take, List.getElem?_drop]
  split
  · unfold pAt
    rw [List.append_assoc, List.getElem?_append_left (by simp; omega), List.getElem?_take, if_pos (by omega)]
  · rfl
theorem pcs_hi {cur es : List UInt8} {o p k : Nat} (h : o + es.length ≤ cur.length) (hp : o + es.length ≤ p) : pcs (pAt cur o es) p k = pcs cur p k := by
  unfold pcs pAt
  have ht : (cur.take o).length = o := by simp; omega
  rw [List.drop_append, List.length_append, ht, List.drop_of_length_le (by simp; omega), List.nil_append, List.drop_drop]
  congr 2; omega
section enc
variable {ds : List UInt8} {n : Nat} {gu : List UInt8} {ps : List GP}
def encHdr (n : Nat) (gu : List UInt8) (ps : List GP) : List UInt8 := hdrB 1 ((n : Int) - 1) 2 n (gB gu) (crc32 (arrB ps))
def encHdr2 (n : Nat) (gu : List UInt8) (ps : List GP) : List UInt8 := hdrB ((n : Int) - 1) 1 ((n : Int) - 33) n (gB gu) (crc32 (arrB ps))
theorem enc_at (hn : 80 ≤ n) (hd : ds.length = n * 512) (hf : ∀ p ∈ ps, p.fits) (hm : (mbrB ds (protM n)).length = ds.length) :
    pcs (encB ds n gu ps) 512 512 = encHdr n gu ps ∧ pcs (encB ds n gu ps) 1024 16384 = arrB ps ∧ pcs (encB ds n gu ps) ((n - 33) * 512) 16384 = arrB ps ∧ pcs (encB ds n gu ps) ((n - 1) * 512) 512 = encHdr2 n gu ps ∧ pcs (encB ds n gu ps) 0 512 = pcs (mbrB ds (protM n)) 0 512 := by
  have ha : (arrB ps).length = 16384 := arrB_len hf
  have h1 : (encHdr n gu ps).length = 512 := hdrB_len (gB_len gu)
  have h2 : (encHdr2 n gu ps).length = 512 := hdrB_len (gB_len gu)
  have e : encB ds n gu ps = pAt (pAt (pAt (pAt (mbrB ds (protM n)) 512 (encHdr n gu ps)) 1024 (arrB ps)) ((n - 33) * 512) (arrB ps)) ((n - 1) * 512) (encHdr2 n gu ps) := rfl
  have l1 : (pAt (mbrB ds (protM n)) 512 (encHdr n gu ps)).length = n * 512 := by rw [pAt_len (by omega)]; omega
  have l2 : (pAt (pAt (mbrB ds (protM n)) 512 (encHdr n gu ps)) 1024 (arrB ps)).length = n * 512 := by rw [pAt_len (by omega)]; omega
  have l3 : (pAt (pAt (pAt (mbrB ds (protM n)) 512 (encHdr n gu ps)) 1024 (arrB ps)) ((n - 33) * 512) (arrB ps)).length = n * 512 := by rw [pAt_len (by omega)]; omega
  rw [e]
  refine ⟨?_, ?_, ?_, ?_, ?_⟩
  · rw [pcs_lo (by omega) (by omega), pcs_lo (by omega) (by omega), pcs_lo (by omega) (by omega), pcs_in h1 (by omega)]
  · rw [pcs_lo (by omega) (by omega), pcs_lo (by omega) (by omega), pcs_in ha (by omega)]
  · rw [pcs_lo (by omega) (by omega), pcs_in ha (by omega)]
  · rw [pcs_in h2 (by omega)]
  · rw [pcs_lo (by omega) (by omega), pcs_lo (by omega) (by omega), pcs_lo (by omega) (by omega), pcs_lo (by omega) (by omega)]
end enc
theorem pcs_mid {xs ys zs : List UInt8} {p k : Nat} (hp : xs.length = p) (hk : ys.length = k) : pcs (xs ++ (ys ++ zs)) p k = ys := by
  unfold pcs
  rw [List.drop_append, List.drop_of_length_le (by omega), List.nil_append, hp, Nat.sub_self, List.drop_zero, List.take_append, hk, Nat.sub_self, List.take_zero, List.append_nil, List.take_of_length_le (by omega)]
theorem pAt_mid {xs ys zs es : List UInt8} {p : Nat} (hp : xs.length = p) (hk : es.length = ys.length) : pAt (xs ++ (ys ++ zs)) p es = xs ++ (es ++ zs) := by
  unfold pAt
  rw [List.take_append, hp, Nat.sub_self, List.take_zero, List.append_nil, List.take_of_length_le (by omega), hk, ← hp, List.drop_append, List.drop_of_length_le (by omega), List.nil_append, Nat.add_sub_cancel_left, List.drop_left, List.append_assoc]
section hdr
variable {s a o e n c : Int} {gu : List UInt8} {r : List UInt8}
theorem hf0 (h : gu.length = 16) : pcs (hdrS s a o e n gu c ++ r) 0 8 = efiL := by
  have e1 : hdrS s a o e n gu c ++ r = (([] : List UInt8)) ++ ((efiL) ++ (leB 4 65536 ++ (leB 4 92 ++ (leB 4 s ++ ([0, 0, 0, 0] ++ (leB 8 a ++ (leB 8 o ++ (leB 8 34 ++ (leB 8 (n - 34) ++ (gu ++ (leB 8 e ++ (leB 4 128 ++ (leB 4 128 ++ (leB 4 c ++ (r))))))))))))))) := by
    unfold hdrS; simp only [List.append_assoc, List.nil_append]
  rw [e1]
  exact pcs_mid (by simp only [List.length_append, leB_len, h, efiL, List.length_cons, List.length_nil]) (by simp only [leB_len, h, efiL, List.length_cons, List.length_nil])
theorem hf8 (h : gu.length = 16) : pcs (hdrS s a o e n gu c ++ r) 8 4 = leB 4 65536 := by
  have e1 : hdrS s a o e n gu c ++ r = (efiL) ++ ((leB 4 65536) ++ (leB 4 92 ++ (leB 4 s ++ ([0, 0, 0, 0] ++ (leB 8 a ++ (leB 8 o ++ (leB 8 34 ++ (leB 8 (n - 34) ++ (gu ++ (leB 8 e ++ (leB 4 128 ++ (leB 4 128 ++ (leB 4 c ++ (r)))))))))))))) := by
    unfold hdrS; simp only [List.append_assoc, List.nil_append]
  rw [e1]
  exact pcs_mid (by simp only [List.length_append, leB_len, h, efiL, List.length_cons, List.length_nil]) (by simp only [leB_len, h, efiL, List.length_cons, List.length_nil])
theorem hf12 (h : gu.length = 16) : pcs (hdrS s a o e n gu c ++ r) 12 4 = leB 4 92 := by
  have e1 : hdrS s a o e n gu c ++ r = (efiL ++ leB 4 65536) ++ ((leB 4 92) ++ (leB 4 s ++ ([0, 0, 0, 0] ++ (leB 8 a ++ (leB 8 o ++ (leB 8 34 ++ (leB 8 (n - 34) ++ (gu ++ (leB 8 e ++ (leB 4 128 ++ (leB 4 128 ++ (leB 4 c ++ (r))))))))))))) := by
    unfold hdrS; simp only [List.append_assoc, List.nil_append]
  rw [e1]
  exact pcs_mid (by simp only [List.length_append, leB_len, h, efiL, List.length_cons, List.length_nil]) (by simp only [leB_len, h, efiL, List.length_cons, List.length_nil])
theorem hf16 (h : gu.length = 16) : pcs (hdrS s a o e n gu c ++ r) 16 4 = leB 4 s := by
  have e1 : hdrS s a o e n gu c ++ r = (efiL ++ leB 4 65536 ++ leB 4 92) ++ ((leB 4 s) ++ ([0, 0, 0, 0] ++ (leB 8 a ++ (leB 8 o ++ (leB 8 34 ++ (leB 8 (n - 34) ++ (gu ++ (leB 8 e ++ (leB 4 128 ++ (leB 4 128 ++ (leB 4 c ++ (r)))))))))))) := by
    unfold hdrS; simp only [List.append_assoc, List.nil_append]
  rw [e1]
  exact pcs_mid (by simp only [List.length_append, leB_len, h, efiL, List.length_cons, List.length_nil]) (by simp only [leB_len, h, efiL, List.length_cons, List.length_nil])
theorem hf20 (h : gu.length = 16) : pcs (hdrS s a o e n gu c ++ r) 20 4 = [0, 0, 0, 0] := by
  have e1 : hdrS s a o e n gu c ++ r = (efiL ++ leB 4 65536 ++ leB 4 92 ++ leB 4 s) ++ (([0, 0, 0, 0]) ++ (leB 8 a ++ (leB 8 o ++ (leB 8 34 ++ (leB 8 (n - 34) ++ (gu ++ (leB 8 e ++ (leB 4 128 ++ (leB 4 128 ++ (leB 4 c ++ (r))))))))))) := by
    unfold hdrS; simp only [List.append_assoc, List.nil_append]
  rw [e1]
  exact pcs_mid (by simp only [List.length_append, leB_len, h, efiL, List.length_cons, List.length_nil]) (by simp only [leB_len, h, efiL, List.length_cons, List.length_nil])
theorem hf24 (h : gu.length = 16) : pcs (hdrS s a o e n gu c ++ r) 24 8 = leB 8 a := by
  have e1 : hdrS s a o e n gu c ++ r = (efiL ++ leB 4 65536 ++ leB 4 92 ++ leB 4 s ++ [0, 0, 0, 0]) ++ ((leB 8 a) ++ (leB 8 o ++ (leB 8 34 ++ (leB 8 (n - 34) ++ (gu ++ (leB 8 e ++ (leB 4 128 ++ (leB 4 128 ++ (leB 4 c ++ (r)))))))))) := by
    unfold hdrS; simp only [List.append_assoc, List.nil_append]
  rw [e1]
  exact pcs_mid (by simp only [List.length_append, leB_len, h, efiL, List.length_cons, List.length_nil]) (by simp only [leB_len, h, efiL, List.length_cons, List.length_nil])
theorem hf32 (h : gu.length = 16) : pcs (hdrS s a o e n gu c ++ r) 32 8 = leB 8 o := by
  have e1 : hdrS s a o e n gu c ++ r = (efiL ++ leB 4 65536 ++ leB 4 92 ++ leB 4 s ++ [0, 0, 0, 0] ++ leB 8 a) ++ ((leB 8 o) ++ (leB 8 34 ++ (leB 8 (n - 34) ++ (gu ++ (leB 8 e ++ (leB 4 128 ++ (leB 4 128 ++ (leB 4 c ++ (r))))))))) := by
    unfold hdrS; simp only [List.append_assoc, List.nil_append]
  rw [e1]
  exact pcs_mid (by simp only [List.length_append, leB_len, h, efiL, List.length_cons, List.length_nil]) (by simp only [leB_len, h, efiL, List.length_cons, List.length_nil])
theorem hf48 (h : gu.length = 16) : pcs (hdrS s a o e n gu c ++ r) 48 8 = leB 8 (n - 34) := by
  have e1 : hdrS s a o e n gu c ++ r = (efiL ++ leB 4 65536 ++ leB 4 92 ++ leB 4 s ++ [0, 0, 0, 0] ++ leB 8 a ++ leB 8 o ++ leB 8 34) ++ ((leB 8 (n - 34)) ++ (gu ++ (leB 8 e ++ (leB 4 128 ++ (leB 4 128 ++ (leB 4 c ++ (r))))))) := by
    unfold hdrS; simp only [List.append_assoc, List.nil_append]
  rw [e1]
  exact pcs_mid (by simp only [List.length_append, leB_len, h, efiL, List.length_cons, List.length_nil]) (by simp only [leB_len, h, efiL, List.length_cons, List.length_nil])
theorem hf56 (h : gu.length = 16) : pcs (hdrS s a o e n gu c ++ r) 56 16 = gu := by
  have e1 : hdrS s a o e n gu c ++ r = (efiL ++ leB 4 65536 ++ leB 4 92 ++ leB 4 s ++ [0, 0, 0, 0] ++ leB 8 a ++ leB 8 o ++ leB 8 34 ++ leB 8 (n - 34)) ++ ((gu) ++ (leB 8 e ++ (leB 4 128 ++ (leB 4 128 ++ (leB 4 c ++ (r)))))) := by
    unfold hdrS; simp only [List.append_assoc, List.nil_append]
  rw [e1]
  exact pcs_mid (by simp only [List.length_append, leB_len, h, efiL, List.length_cons, List.length_nil]) (by simp only [leB_len, h, efiL, List.length_cons, List.length_nil])
theorem hf72 (h : gu.length = 16) : pcs (hdrS s a o e n gu c ++ r) 72 8 = leB 8 e := by
  have e1 : hdrS s a o e n gu c ++ r = (efiL ++ leB 4 65536 ++ leB 4 92 ++ leB 4 s ++ [0, 0, 0, 0] ++ leB 8 a ++ leB 8 o ++ leB 8 34 ++ leB 8 (n - 34) ++ gu) ++ ((leB 8 e) ++ (leB 4 128 ++ (leB 4 128 ++ (leB 4 c ++ (r))))) := by
    unfold hdrS; simp only [List.append_assoc, List.nil_append]
  rw [e1]
  exact pcs_mid (by simp only [List.length_append, leB_len, h, efiL, List.length_cons, List.length_nil]) (by simp only [leB_len, h, efiL, List.length_cons, List.length_nil])
theorem hf80 (h : gu.length = 16) : pcs (hdrS s a o e n gu c ++ r) 80 4 = leB 4 128 := by
  have e1 : hdrS s a o e n gu c ++ r = (efiL ++ leB 4 65536 ++ leB 4 92 ++ leB 4 s ++ [0, 0, 0, 0] ++ leB 8 a ++ leB 8 o ++ leB 8 34 ++ leB 8 (n - 34) ++ gu ++ leB 8 e) ++ ((leB 4 128) ++ (leB 4 128 ++ (leB 4 c ++ (r)))) := by
    unfold hdrS; simp only [List.append_assoc, List.nil_append]
  rw [e1]
  exact pcs_mid (by simp only [List.length_append, leB_len, h, efiL, List.length_cons, List.length_nil]) (by simp only [leB_len, h, efiL, List.length_cons, List.length_nil])
theorem hf84 (h : gu.length = 16) : pcs (hdrS s a o e n gu c ++ r) 84 4 = leB 4 128 := by
  have e1 : hdrS s a o e n gu c ++ r = (efiL ++ leB 4 65536 ++ leB 4 92 ++ leB 4 s ++ [0, 0, 0, 0] ++ leB 8 a ++ leB 8 o ++ leB 8 34 ++ leB 8 (n - 34) ++ gu ++ leB 8 e ++ leB 4 128) ++ ((leB 4 128) ++ (leB 4 c ++ (r))) := by
    unfold hdrS; simp only [List.append_assoc, List.nil_append]
  rw [e1]
  exact pcs_mid (by simp only [List.length_append, leB_len, h, efiL, List.length_cons, List.length_nil]) (by simp only [leB_len, h, efiL, List.length_cons, List.length_nil])
theorem hf88 (h : gu.length = 16) : pcs (hdrS s a o e n gu c ++ r) 88 4 = leB 4 c := by
  have e1 : hdrS s a o e n gu c ++ r = (efiL ++ leB 4 65536 ++ leB 4 92 ++ leB 4 s ++ [0, 0, 0, 0] ++ leB 8 a ++ leB 8 o ++ leB 8 34 ++ leB 8 (n - 34) ++ gu ++ leB 8 e ++ leB 4 128 ++ leB 4 128) ++ ((leB 4 c) ++ (r)) := by
    unfold hdrS; simp only [List.append_assoc, List.nil_append]
  rw [e1]
  exact pcs_mid (by simp only [List.length_append, leB_len, h, efiL, List.length_cons, List.length_nil]) (by simp only [leB_len, h, efiL, List.length_cons, List.length_nil])
theorem hz (h : gu.length = 16) : zHdr (hdrS s a o e n gu c) = hdrS 0 a o e n gu c := by
  have e1 : ∀ t : Int, hdrS t a o e n gu c = (efiL ++ leB 4 65536 ++ leB 4 92) ++ (leB 4 t ++ ([0, 0, 0, 0] ++ leB 8 a ++ leB 8 o ++ leB 8 34 ++ leB 8 (n - 34) ++ gu ++ leB 8 e ++ leB 4 128 ++ leB 4 128 ++ leB 4 c)) := fun t => by
    unfold hdrS; simp only [List.append_assoc]
  unfold zHdr
  rw [e1, pAt_mid (by simp only [List.length_append, leB_len, efiL, List.length_cons, List.length_nil]) (by simp only [leB_len, List.length_cons, List.length_nil]), e1]
  rfl
theorem hdrS_rng (bs : List UInt8) : 0 ≤ crc32 bs ∧ crc32 bs < 4294967296 := by have := crc32_rng bs; omega
theorem laid_hdr {D : List UInt8} {A : Nat} (hp : pcs D A 512 = hdrB a o e n gu c) (h : gu.length = 16) (ha : 0 ≤ a ∧ a < 4294967296) (ho : 0 ≤ o ∧ o < 4294967296) (he : 0 ≤ e ∧ e < 4294967296) (hn : 34 ≤ n ∧ n < 4294967296) (hc : 0 ≤ c ∧ c < 4294967296) :
    hdrGood D A = true ∧ (fld D (A + 72) 8 = e ∧ fld D (A + 80) 4 = 128 ∧ fld D (A + 84) 4 = 128) ∧ fld D (A + 88) 4 = c ∧ fld D (A + 24) 8 = a ∧ fld D (A + 32) 8 = o ∧ fld D (A + 48) 8 = n - 34 ∧ pcs D (A + 56) 16 = gu ∧ sigOk D A = true ∧ crcOk D A = true := by
  have P : ∀ p k, p + k ≤ 512 → pcs D (A + p) k = pcs (hdrB a o e n gu c) p k := fun p k hk => by rw [← hp, pcsA hk]
  have F : ∀ p k, p + k ≤ 512 → fld D (A + p) k = leV (pcs (hdrB a o e n gu c) p k) := fun p k hk => by unfold fld; rw [P p k hk]
  have L8 : ∀ v : Int, 0 ≤ v ∧ v < 4294967296 → leV (leB 8 v) = v := fun v hv => leV_leB 8 hv.1 (by have : (256 : Int) ^ 8 = 18446744073709551616 := by decide
                                                                                                    omega)
  have L4 : ∀ v : Int, 0 ≤ v ∧ v < 4294967296 → leV (leB 4 v) = v := fun v hv => leV_leB 4 hv.1 (by have : (256 : Int) ^ 4 = 4294967296 := by decide
                                                                                                    omega)
  have hs : sigOk D A = true := decide_eq_true (by have := P 0 8 (by decide); rw [Nat.add_zero] at this; rw [this]; exact hf0 h)
  have h92 : pcs D A 92 = hdrS (crc32 (hdrS 0 a o e n gu c)) a o e n gu c := by
    have h1 := P 0 92 (by decide)
    rw [Nat.add_zero] at h1
    rw [h1]
    have h2 := pcs_mid (xs := []) (ys := hdrS (crc32 (hdrS 0 a o e n gu c)) a o e n gu c) (zs := List.replicate 420 0) (p := 0) (k := 92) rfl (hdrS_len h)
    exact h2
  have hk : crcOk D A = true := decide_eq_true (by
    rw [h92, hz h, F 16 4 (by decide)]
    have : pcs (hdrB a o e n gu c) 16 4 = leB 4 (crc32 (hdrS 0 a o e n gu c)) := hf16 h
    rw [this, L4 _ (hdrS_rng _)])
  refine ⟨?_, ⟨?_, ?_, ?_⟩, ?_, ?_, ?_, ?_, ?_, hs, hk⟩
  · unfold hdrGood
    rw [hs, hk, P 8 4 (by decide), P 12 4 (by decide), P 20 4 (by decide)]
    rw [show pcs (hdrB a o e n gu c) 8 4 = leB 4 65536 from hf8 h, show pcs (hdrB a o e n gu c) 12 4 = leB 4 92 from hf12 h, show pcs (hdrB a o e n gu c) 20 4 = [0, 0, 0, 0] from hf20 h]
    rfl
  · rw [F 72 8 (by decide), show pcs (hdrB a o e n gu c) 72 8 = leB 8 e from hf72 h, L8 _ he]
  · rw [F 80 4 (by decide), show pcs (hdrB a o e n gu c) 80 4 = leB 4 128 from hf80 h]; rfl
  · rw [F 84 4 (by decide), show pcs (hdrB a o e n gu c) 84 4 = leB 4 128 from hf84 h]; rfl
  · rw [F 88 4 (by decide), show pcs (hdrB a o e n gu c) 88 4 = leB 4 c from hf88 h, L4 _ hc]
  · rw [F 24 8 (by decide), show pcs (hdrB a o e n gu c) 24 8 = leB 8 a from hf24 h, L8 _ ha]
  · rw [F 32 8 (by decide), show pcs (hdrB a o e n gu c) 32 8 = leB 8 o from hf32 h, L8 _ ho]
  · rw [F 48 8 (by decide), show pcs (hdrB a o e n gu c) 48 8 = leB 8 (n - 34) from hf48 h, L8 _ (by omega)]
  · rw [P 56 16 (by decide)]; exact hf56 h
theorem laid_fits {D : List UInt8} {A : Nat} (h1 : fld D (A + 72) 8 < 4194304) (h2 : fld D (A + 80) 4 = 128) (h3 : fld D (A + 84) 4 = 128) : fitsB D 512 A = true := by
  unfold fitsB
  rw [h2, h3, decide_eq_true (p := fld D (A + 72) 8 < 2147483648 / ((512 : Nat) : Int)) (by omega)]
  simp
end hdr
end Go.Proofs.YthcaejaaalkglaaDoor.X
/- What is read of an array that the statements have laid. -/
namespace Go.Proofs.YthcaejaaalkglaaDoor.X
set_option linter.unusedVariables false
set_option linter.unusedSimpArgs false
open Go
def padE (p : GP) : List UInt8 := entB p ++ List.replicate (128 - (entB p).length) 0
theorem entB_le {p : GP} (h : p.fits) : (entB p).length ≤ 128 := by
 obtain ⟨_, _, h3⟩ := h
 rw [entB_len]; omega
theorem entA_other {a : List UInt8} {p : GP} {j : Nat} (ha : a.length = 16384) (hf : p.fits) (hj : j < 128) (hne : j ≠ (p.ix - 1).toNat) : entA (arrP a p) j = entA a j := by
 have hl := entB_le hf
 obtain ⟨f1, f2, f3⟩ := hf
 unfold entA arrP
 rcases Nat.lt_or_gt_of_ne hne with h | h
 ·exact pcs_lo (by omega) (by omega)
 ·exact pcs_hi (by omega) (by omega)
theorem entA_zero {j : Nat} (hj : j < 128) : entA (List.replicate 16384 0) j = List.replicate 128 0 := by
 unfold entA pcs
 rw [List.drop_replicate, List.take_replicate]
 congr 1; omega
theorem entA_same {a : List UInt8} {p : GP} {j : Nat} (ha : a.length = 16384) (hf : p.fits) (hj : j = (p.ix - 1).toNat) (hz : entA a j = List.replicate 128 0) : entA (arrP a p) j = padE p := by
 have hl := entB_le hf
 obtain ⟨f1, f2, f3⟩ := hf
 subst hj
 have h0 : pcs (arrP a p) (128 * (p.ix - 1).toNat) (entB p).length = entB p := pcs_in rfl (by omega)
 have h1 : pcs (arrP a p) (128 * (p.ix - 1).toNat + (entB p).length) (128 - (entB p).length) = List.replicate (128 - (entB p).length) 0 := by
  unfold arrP
  rw [pcs_hi (by omega) (by omega), ← pcsA (n := 128) (by omega)]
  have : pcs a (128 * (p.ix - 1).toNat) 128 = List.replicate 128 0 := hz
  rw [this]
  unfold pcs
  rw [List.drop_replicate, List.take_replicate]
  congr 1; omega
 unfold entA padE
 rw [← h1]
 have hs : ∀ (bs : List UInt8) (o i k : Nat), pcs bs o (i + k) = pcs bs o i ++ pcs bs (o + i) k := fun bs o i k => by
  unfold pcs
  rw [List.take_add, List.drop_drop]
 have e := hs (arrP a p) (128 * (p.ix - 1).toNat) (entB p).length (128 - (entB p).length)
 rw [show (entB p).length + (128 - (entB p).length) = 128 by omega, h0] at e
 exact e
theorem entA_fold : ∀ (ps : List GP) (a : List UInt8), a.length = 16384 → (∀ p ∈ ps, p.fits) → (∀ j, j < 128 → (∀ p ∈ ps, (p.ix - 1).toNat ≠ j) → entA (ps.foldl arrP a) j = entA a j)
 | [], a, ha, hf, j, hj, hn => rfl
 | p :: r, a, ha, hf, j, hj, hn => by
  rw [List.foldl_cons, entA_fold r _ (arrP_len ha (hf p (.head _))) (fun q hq => hf q (.tail _ hq)) j hj (fun q hq => hn q (.tail _ hq))]
  exact entA_other ha (hf p (.head _)) hj (fun h => hn p (.head _) h.symm)
theorem entA_free {ps : List GP} {j : Nat} (hf : ∀ p ∈ ps, p.fits) (hj : j < 128) (hn : ∀ p ∈ ps, (p.ix - 1).toNat ≠ j) : entA (arrB ps) j = List.replicate 128 0 := by
 unfold arrB
 rw [entA_fold ps _ List.length_replicate hf j hj hn, entA_zero hj]
theorem entA_at : ∀ (ps : List GP) (a : List UInt8) (p : GP), a.length = 16384 → (∀ q ∈ ps, q.fits) → p ∈ ps → ps.Pairwise (fun x y => x.ix ≠ y.ix) → entA a (p.ix - 1).toNat = List.replicate 128 0 → entA (ps.foldl arrP a) (p.ix - 1).toNat = padE p
 | [], a, p, ha, hf, hp, hd, hz => absurd hp (by simp)
 | q :: r, a, p, ha, hf, hp, hd, hz => by
  rw [List.foldl_cons]
  rw [List.pairwise_cons] at hd
  have hfq := hf q (.head _)
  rcases List.mem_cons.1 hp with rfl | hp
  ·have h128 : (p.ix - 1).toNat < 128 := by have := hfq.1; have := hfq.2.1; omega
   rw [entA_fold r _ (arrP_len ha hfq) (fun x hx => hf x (.tail _ hx)) _ h128 (fun x hx h => hd.1 x hx (by
    have h1 := (hf x (.tail _ hx)).1; have h2 := hfq.1; omega))]
   exact entA_same ha hfq rfl hz
  ·have hfp := hf p (.tail _ hp)
   refine entA_at r _ p (arrP_len ha hfq) (fun x hx => hf x (.tail _ hx)) hp hd.2 ?_
   rw [entA_other ha hfq (by have := hfp.1; have := hfp.2.1; omega) (fun h => hd.1 p hp (by have h1 := hfp.1; have h2 := hfq.1; omega))]
   exact hz
theorem padE_eq (p : GP) : ∃ r, padE p = gB p.ty ++ (gB p.gu ++ (leB 8 p.st ++ (leB 8 p.en ++ (leB 8 p.att ++ (entN p.nm ++ r))))) := ⟨List.replicate (128 - (entB p).length) 0, by
 have e : padE p = entB p ++ List.replicate (128 - (entB p).length) 0 := rfl
 rw [e]
 generalize List.replicate (128 - (entB p).length) (0 : UInt8) = r
 unfold entB entH; simp only [List.append_assoc]⟩
theorem leV8 {v : Int} (h : 0 ≤ v ∧ v ≤ 18446744073709551615) : leV (leB 8 v) = v := leV_leB 8 h.1 (by
 have : (256 : Int) ^ 8 = 18446744073709551616 := by decide
 omega)
theorem pad_fields {p : GP} (h : p.ok) : pcs (padE p) 0 16 = gB p.ty ∧ pcs (padE p) 16 16 = gB p.gu ∧ fld (padE p) 32 8 = p.st ∧ fld (padE p) 40 8 = p.en ∧ fld (padE p) 48 8 = p.att := by
 obtain ⟨r, e⟩ := padE_eq p
 have e1 : padE p = gB p.ty ++ (gB p.gu ++ (leB 8 p.st ++ (leB 8 p.en ++ (leB 8 p.att ++ (entN p.nm ++ r))))) := e
 have e2 : padE p = (gB p.ty ++ gB p.gu) ++ (leB 8 p.st ++ (leB 8 p.en ++ (leB 8 p.att ++ (entN p.nm ++ r)))) := by rw [e]; simp only [List.append_assoc]
 have e3 : padE p = (gB p.ty ++ gB p.gu ++ leB 8 p.st) ++ (leB 8 p.en ++ (leB 8 p.att ++ (entN p.nm ++ r))) := by rw [e]; simp only [List.append_assoc]
 have e4 : padE p = (gB p.ty ++ gB p.gu ++ leB 8 p.st ++ leB 8 p.en) ++ (leB 8 p.att ++ (entN p.nm ++ r)) := by rw [e]; simp only [List.append_assoc]
 refine ⟨?_, ?_, ?_, ?_, ?_⟩
 ·rw [e1]; exact pcs_mid (xs := []) rfl (gB_len _)
 ·rw [e1]; exact pcs_mid (gB_len _) (gB_len _)
 ·unfold fld; rw [e2, pcs_mid (by simp only [List.length_append, gB_len]) (leB_len 8 _)]; exact leV8 h.st
 ·unfold fld; rw [e3, pcs_mid (by simp only [List.length_append, gB_len, leB_len]) (leB_len 8 _)]; exact leV8 h.en
 ·unfold fld; rw [e4, pcs_mid (by simp only [List.length_append, gB_len, leB_len]) (leB_len 8 _)]; exact leV8 h.att
end Go.Proofs.YthcaejaaalkglaaDoor.X
/- The small table, laid and read. -/
namespace Go.Proofs.YthcaejaaalkglaaDoor.X
set_option linter.unusedVariables false
open Go
theorem usedP_one {ar : List UInt8} (h0 : freeE (entA ar 0) = false) (hr : ∀ j, 0 < j → j < 128 → freeE (entA ar j) = true) : ∀ m, m + 1 ≤ 128 → usedP ar (m + 1) = [gpE 1 (entA ar 0)]
 | 0, _ => by
  unfold usedP
  simp [List.range_succ, useP, h0]
 | m + 1, h => by
  have ih := usedP_one h0 hr m (by omega)
  unfold usedP at ih ⊢
  rw [List.range_succ, List.filterMap_append, ih]
  simp [useP, hr (m + 1) (by omega) (by omega)]
theorem pS_fits : pS.fits := ⟨by decide, by decide, by decide +kernel⟩
theorem pS_fit : pS.fit := ⟨by decide, by decide, by decide⟩
theorem small_used : usedP (arrB [pS]) 128 = [gpE 1 (padE pS)] := by
 have hf : ∀ p ∈ [pS], p.fits := fun p hp => by
  obtain rfl : p = pS := by simpa using hp
  exact pS_fits
 have h0 : entA (arrB [pS]) 0 = padE pS := entA_at [pS] _ pS List.length_replicate hf (by simp) (by simp) (entA_zero (by decide))
 have h1 : freeE (entA (arrB [pS]) 0) = false := by rw [h0]; decide +kernel
 rw [usedP_one h1 (fun j hj h => by
  rw [entA_free hf h (fun p hp e => by
   obtain rfl : p = pS := by simpa using hp
   have : (pS.ix - 1).toNat = 0 := rfl
   omega)]
  decide +kernel) 127 (by decide), h0]
theorem small_keep : keepP [gpE 1 (padE pS)] = [gpE 1 (padE pS)] := by
 have h : sameG (gpE 1 (padE pS)).ty zG = false := by decide +kernel
 simp [keepP, h]
theorem small_same : sameT (gT (gB gS)) gS [gpE 1 (padE pS)] [pS] = true := by decide +kernel
theorem small_ok : (gpE 1 (padE pS)).ok := by
 obtain ⟨h1, h2, h3, h4, h5⟩ := pad_fields pS_ok
 exact ⟨by decide, by show 0 ≤ fld _ 32 8 ∧ _; rw [h3]; exact pS_ok.st, by show 0 ≤ fld _ 40 8 ∧ _; rw [h4]; exact pS_ok.en, by show 0 ≤ szE _ ∧ _; unfold szE; rw [h3, h4]; decide, by show 0 ≤ fld _ 48 8 ∧ _; rw [h5]; exact pS_ok.att⟩
end Go.Proofs.YthcaejaaalkglaaDoor.X
/- A disk that the statements have laid, as the package reads it. -/
namespace Go.Proofs.YthcaejaaalkglaaDoor.X
set_option linter.unusedVariables false
open Go
theorem prot_len {ds : List UInt8} {n : Nat} (hd : ds.length = n * 512) (hn : 80 ≤ n) : (mbrB ds (protM n)).length = ds.length := by
 unfold mbrB
 exact pAt_len (by rw [List.length_append, flat_len MP.bytes_len]; simp [protM]; omega)
theorem laid_all {ds : List UInt8} {n : Nat} {gu : List UInt8} {ps : List GP} (hn : 80 ≤ n ∧ n ≤ 1000000) (hd : ds.length = n * 512) (hf : ∀ p ∈ ps, p.fits) :
  ((hdrGood (encB ds n gu ps) 512 && decide (fld (encB ds n gu ps) 600 4 = crc32 (pcs (encB ds n gu ps) 1024 16384))) = true ∧ pcs (encB ds n gu ps) 1024 16384 = arrB ps ∧ pcs (encB ds n gu ps) 568 16 = gB gu) ∧
  (hdrGood (encB ds n gu ps) 512 = true → fld (encB ds n gu ps) 584 8 = 2 ∧ fld (encB ds n gu ps) 592 4 = 128 ∧ fld (encB ds n gu ps) 596 4 = 128) ∧
  (hdrGood (encB ds n gu ps) (512 * (n - 1)) = true → fld (encB ds n gu ps) (512 * (n - 1) + 72) 8 = ((n - 33 : Nat) : Int) ∧ fld (encB ds n gu ps) (512 * (n - 1) + 80) 4 = 128 ∧ fld (encB ds n gu ps) (512 * (n - 1) + 84) 4 = 128) ∧
  fitsB (encB ds n gu ps) 512 512 = true ∧ fitsB (encB ds n gu ps) 512 (512 * (n - 1)) = true := by
 obtain ⟨e1, e2, e3, e4, e5⟩ := enc_at (gu := gu) hn.1 hd hf (prot_len hd hn.1)
 have hc := hdrS_rng (arrB ps)
 obtain ⟨g1, ⟨f1, f2, f3⟩, f4, f5, f6, f7, f8, _⟩ := laid_hdr (D := encB ds n gu ps) (A := 512) e1 (gB_len gu) (by decide) (by omega) (by decide) (by omega) hc
 rw [Nat.mul_comm] at e4
 obtain ⟨k1, ⟨q1, q2, q3⟩, q4, q5, q6, q7, q8, _⟩ := laid_hdr (D := encB ds n gu ps) (A := 512 * (n - 1)) e4 (gB_len gu) (by omega) (by decide) (by omega) (by omega) hc
 refine ⟨⟨?_, e2, f8⟩, fun _ => ⟨f1, f2, f3⟩, fun _ => ⟨by rw [q1]; omega, q2, q3⟩, laid_fits (by rw [f1]; decide) f2 f3, laid_fits (by rw [q1]; omega) q2 q3⟩
 rw [g1, Bool.true_and, e2]
 exact decide_eq_true f4
theorem small_oks : ∀ p ∈ [pS], p.ok := fun p hp => by
 obtain rfl : p = pS := by simpa using hp
 exact pS_ok
theorem small_fits : ∀ p ∈ [pS], p.fit ∧ p.fits := fun p hp => by
 obtain rfl : p = pS := by simpa using hp
 exact ⟨pS_fit, pS_fits⟩
theorem small_fitsb : ∀ p ∈ [pS], p.fits := fun p hp => (small_fits p hp).2
theorem small_told : ∀ p ∈ [gpE 1 (padE pS)], p.ok := fun p hp => by
 obtain rfl : p = gpE 1 (padE pS) := by simpa using hp
 exact small_ok
end Go.Proofs.YthcaejaaalkglaaDoor.X
/- Walks of functions, printed by a program of this claim. -/
namespace Go.Proofs.YthcaejaaalkglaaDoor.X
set_option linter.unusedVariables false
set_option linter.unusedSimpArgs false
open Go Go.RowKit
namespace PF
theorem ca11 : callable Tryd.prog 11 = true := by kernel_rfl
theorem ca12 : callable Tryd.prog 12 = true := by kernel_rfl
theorem ca13 : callable Tryd.prog 13 = true := by kernel_rfl
theorem ca14 : callable Tryd.prog 14 = true := by kernel_rfl
theorem ca25 : callable Tryd.prog 25 = true := by kernel_rfl
end PF
open PF
set_option maxRecDepth 100000 in
set_option maxHeartbeats 1000000 in
theorem c_awake (w : World)  : Calls Tryd.prog 9 #[] w (Ret fun v w' => v = .bool true ∧ Fr [] w w') := by
 refine enter (fun ρ => ρ 0) Tryd.func9 rfl rfl rfl (res1 rfl) ?_
 have H := SH.nil w
 obtain ⟨⟨L1, L2, L3⟩, L4, L5, L6, L7⟩ := laid_all (ds := List.replicate 51200 0) (n := 100) (gu := gS) (ps := [pS]) (by decide) List.length_replicate small_fitsb
 refine sq ?_
 refine rg ?_
 refine asg (v := .bool _) rfl rfl ?_
 refine nl ?_
 refine then_n ?_
 refine sq ?_
 refine rg ?_
 refine mkB H rfl rfl Tryd.underlying30 mi5 (by omega) (by omega) (by omega) (by omega) rfl ?_
 clear H; intro b1 w1 hb1 H _
 refine asg (v := .slice _ _ _) rfl rfl ?_
 refine nl ?_
 refine then_n ?_
 refine sq ?_
 refine rg ?_
 refine mv (v := .slice _ _ _) rfl rfl ?_
 refine cl ca25 (c_small _) rfl ?_
 rintro _ w2 ⟨DS, cS, rfl, OS⟩
 have hRS := RG.of_own (ps := [pS]) OS small_oks
 replace H := H.keep OS.sh.fr
 refine cl ca11 (c_gptEncode _ b1 100 51200 _ (List.replicate 51200 0) _ 1 _ gS false [pS] (H.look (b := b1)) (by decide) (by decide) List.length_replicate hRS (by decide) small_fits) rfl ?_
 rintro _ w3 ⟨rfl, hlen, F, hnew⟩
 replace H := H.put (b := b1) F hnew; clear F hnew
 refine nl ?_
 refine then_n ?_
 refine sq ?_
 refine rg ?_
 refine mv (v := .slice _ _ _) rfl rfl ?_
 refine cl ca12 (c_implGptRead _ (some ⟨b1, 0, none⟩) 51200 51200 (encB (List.replicate 51200 0) 100 gS [pS]) (RB.allm (b := b1) H (by rw [hlen, List.length_replicate])) (by decide) 99 67 (by decide) (by decide) L4 L5 L6 L7) rfl ?_
 rintro _ w4 ⟨FR, v1, rfl, r1, r2⟩
 rw [L1, Bool.true_or]
 obtain ⟨DR, cR, rfl, OR1⟩ := r1 L1
 rw [L2, small_used] at OR1 ⊢
 rw [L3]
 have hRR := RG.of_own (ps := [gpE 1 (padE pS)]) OR1 small_told
 replace H := H.keep FR
 refine mv (v := .tuple _) rfl rfl ?_
 refine xt rfl rfl rfl ?_
 refine xt rfl rfl rfl ?_
 refine al H ze24 rfl ?_
 clear H; intro b2 w5 hb2 H _
 refine sa H rfl rfl ag24_5 rfl rfl (by decide) (by omega) rfl ?_
 clear H; intro w6 H _
 refine asg (v := .bool _) rfl rfl ?_
 refine nl ?_
 refine then_n ?_
 refine sq ?_
 refine rg ?_
 rename_i Fa Fb
 have FK := Fa.then Fb (by intro t ht; right; simp only [List.mem_singleton] at ht; subst ht; assumption)
 refine mv (v := .bool _) rfl rfl ?_
 refine mv (v := .bool _) rfl rfl ?_
 refine spL (t := 14) (b := true) rfl ?_
 refine gy rfl ?_
 refine la H rfl ag24_5 rfl rfl rfl ?_
 refine gy rfl ?_
 refine cl ca14 (c_used _ DR 1 cR (gT (gB gS)) _ false [gpE 1 (padE pS)] (hRR.keep FK) (by decide)) rfl ?_
 rintro _ w7 ⟨DU2, cU2, rfl, OU⟩
 rw [small_keep] at OU ⊢
 have hRU := RG.of_own (ps := [gpE 1 (padE pS)]) OU small_told
 replace H := H.keep OU.sh.fr
 refine gy rfl ?_
 refine cl ca25 (c_small _) rfl ?_
 rintro _ w8 ⟨DS, cS, rfl, OS⟩
 have hRS := RG.of_own (ps := [pS]) OS small_oks
 replace H := H.keep OS.sh.fr
 refine gy rfl ?_
 refine cl ca13 (c_sameGpt _ DU2 DS 1 cU2 1 cS (gT (gB gS)) gS _ _ _ _ [gpE 1 (padE pS)] [pS] (hRU.keep OS.sh.fr) hRS (by decide)) rfl ?_
 rintro _ w9 ⟨rfl, F⟩
 replace H := H.keep F; clear F
 rw [small_same]
 refine pkT (v := .bool _) rfl rfl rfl ?_
 refine asg (v := .bool _) rfl rfl ?_
 refine nl ?_
 refine then_n ?_
 refine rt ?_
 refine fin_r ?_
 exact ⟨rfl, H.fr⟩
end Go.Proofs.YthcaejaaalkglaaDoor.X
/- What was laid is read back as it was. -/
namespace Go.Proofs.YthcaejaaalkglaaDoor.X
set_option linter.unusedVariables false
set_option linter.unusedSimpArgs false
open Go
def okN (s : List UInt8) : Prop := ∀ c ∈ runes s, c ≠ 0 ∧ c ≠ 65533
structure GP.good (n : Nat) (p : GP) : Prop where
 ty : gOk p.ty = true
 gu : gOk p.gu = true
 tz : sameG p.ty zG = false
 gz : sameG p.gu zG = false
 un : (utf16 p.nm).length ≤ 36
 nm : okN p.nm
 ix : 1 ≤ p.ix ∧ p.ix ≤ 128
 st : 34 ≤ p.st
 en : p.st ≤ p.en
 la : p.en ≤ (n : Int) - 34
 sz : p.sz = (p.en - p.st + 1) * 512
theorem GP.good.fits {n : Nat} {p : GP} (h : p.good n) : p.fits := ⟨h.ix.1, h.ix.2, h.un⟩
theorem GP.good.ok {n : Nat} {p : GP} (h : p.good n) (hn : n ≤ 1000000) (ha : 0 ≤ p.att ∧ p.att ≤ 18446744073709551615) : p.ok := by
 have h1 := h.ix; have h2 := h.st; have h3 := h.en; have h4 := h.la; have h5 := h.sz
 exact ⟨by omega, by omega, by omega, by omega, ha⟩
def goodL (n : Nat) (ps : List GP) : Prop := (∀ p ∈ ps, p.good n) ∧ ps.Pairwise (fun x y => x.ix < y.ix)
theorem gB_zG : gB zG = List.replicate 16 0 := by decide +kernel
theorem gOk_zG : gOk zG = true := by decide +kernel
theorem sameG_z {s : List UInt8} (h : gOk s = true) (hz : sameG s zG = false) : gB s ≠ List.replicate 16 0 := by
 intro e
 unfold sameG at hz
 rw [h, gOk_zG, gB_zG, decide_eq_true e] at hz
 exact Bool.noConfusion hz
def gpP (p : GP) : GP := gpE p.ix (padE p)
end Go.Proofs.YthcaejaaalkglaaDoor.X
/- Walks of functions, printed by a program of this claim. -/
namespace Go.Proofs.YthcaejaaalkglaaDoor.X
set_option linter.unusedVariables false
set_option linter.unusedSimpArgs false
open Go Go.RowKit
namespace PF
theorem ca19 : callable Tryd.prog 19 = true := by kernel_rfl
theorem ca37 : callable Tryd.prog 37 = true := by kernel_rfl
end PF
open PF
set_option maxRecDepth 100000 in
set_option maxHeartbeats 1000000 in
theorem c_fits7 (w : World) (p : GP) : Calls Tryd.prog 37 #[.agg p.cells.toArray] w (Ret fun v w' => ∃ b, v = .bool b ∧ (b = true → p.fit) ∧ Fr [] w w') := by
 refine enter (fun ρ => ρ 2) Tryd.func37 rfl rfl rfl (res1 rfl) ?_
 have H := SH.nil w
 have s1 := size_str p.ty
 have s2 := size_str p.nm
 have s3 := size_str p.gu
 refine sq ?_
 refine rg ?_
 refine bx (v := .agg _) H rfl rfl rfl ?_
 clear H; intro b1 w1 hb1 H _
 refine asg (v := .bool _) rfl rfl ?_
 refine nl ?_
 refine then_n ?_
 refine sq ?_
 refine sq ?_
 refine rg ?_
 refine fa rfl fo49_4 rfl ?_
 refine ld H rfl sc9 rfl rfl ?_
 refine lnT rfl Tryd.underlying9 rfl ?_
 refine gtr rfl rfl rfl ?_
 refine nl ?_
 refine then_n ?_
 refine cd rfl (fun hc1 => ?_) (fun hc1 => ?_)
 ·refine sq ?_
  refine rg ?_
  refine asg (v := .bool _) rfl rfl ?_
  refine nl ?_
  refine then_n ?_
  refine rt ?_
  refine then_r ?_
  refine fin_r ?_
  exact ⟨false, rfl, fun h => by exact Bool.noConfusion h, H.fr⟩
 ·refine sk ?_
  refine then_n ?_
  refine sq ?_
  refine sq ?_
  refine rg ?_
  refine fa rfl fo49_5 rfl ?_
  refine ld H rfl sc9 rfl rfl ?_
  refine lnT rfl Tryd.underlying9 rfl ?_
  refine gtr rfl rfl rfl ?_
  refine nl ?_
  refine then_n ?_
  refine cd rfl (fun hc2 => ?_) (fun hc2 => ?_)
  ·refine sq ?_
   refine rg ?_
   refine asg (v := .bool _) rfl rfl ?_
   refine nl ?_
   refine then_n ?_
   refine rt ?_
   refine then_r ?_
   refine fin_r ?_
   exact ⟨false, rfl, fun h => by exact Bool.noConfusion h, H.fr⟩
  ·refine sk ?_
   refine then_n ?_
   refine sq ?_
   refine sq ?_
   refine rg ?_
   refine fa rfl fo49_6 rfl ?_
   refine ld H rfl sc9 rfl rfl ?_
   refine lnT rfl Tryd.underlying9 rfl ?_
   refine gtr rfl rfl rfl ?_
   refine nl ?_
   refine then_n ?_
   refine cd rfl (fun hc3 => ?_) (fun hc3 => ?_)
   ·refine sq ?_
    refine rg ?_
    refine asg (v := .bool _) rfl rfl ?_
    refine nl ?_
    refine then_n ?_
    refine rt ?_
    refine then_r ?_
    refine fin_r ?_
    exact ⟨false, rfl, fun h => by exact Bool.noConfusion h, H.fr⟩
   ·refine sk ?_
    refine then_n ?_
    refine sq ?_
    refine rg ?_
    refine asg (v := .bool _) rfl rfl ?_
    refine nl ?_
    refine then_n ?_
    refine rt ?_
    refine fin_r ?_
    exact ⟨true, rfl, fun _ => ⟨by omega, by omega, by omega⟩, H.fr⟩
set_option maxRecDepth 100000 in
set_option maxHeartbeats 1000000 in
theorem c_fits6 (w : World) (D : Option Addr) (m c : Nat) (ps : List GP) (hq : RG w D m c ps) : Calls Tryd.prog 19 #[.slice D m c] w (Ret fun v w' => ∃ b, v = .bool b ∧ (b = true → m ≤ 2147483647 ∧ ∀ p ∈ ps, p.fit) ∧ Fr [] w w') := by
 refine enter (fun ρ => ρ 2) Tryd.func19 rfl rfl rfl (res1 rfl) ?_
 have H := SH.nil w
 have hql := hq.len
 have hcap : c ≤ 9223372036854775807 := by have := hq.cap.2; unfold maxLen at this; omega
 have hcap1 := hq.cap.1
 refine sq ?_
 refine rg ?_
 refine asg (v := .bool _) rfl rfl ?_
 refine nl ?_
 refine then_n ?_
 refine sq ?_
 refine sq ?_
 refine rg ?_
 refine mv (v := .slice _ _ _) rfl rfl ?_
 refine lnS rfl Tryd.underlying22 rfl ?_
 refine gtr rfl rfl rfl ?_
 refine nl ?_
 refine then_n ?_
 refine cd rfl (fun hc1 => ?_) (fun hc1 => ?_)
 ·refine sq ?_
  refine rg ?_
  refine asg (v := .bool _) rfl rfl ?_
  refine nl ?_
  refine then_n ?_
  refine rt ?_
  refine then_r ?_
  refine fin_r ?_
  exact ⟨false, rfl, fun h => by exact Bool.noConfusion h, H.fr⟩
 ·refine sk ?_
  refine then_n ?_
  refine sq ?_
  refine sq ?_
  refine rg ?_
  refine mv (v := .slice _ _ _) rfl rfl ?_
  refine lnS rfl Tryd.underlying22 rfl ?_
  refine mv (v := .int .i64 _) rfl rfl ?_
  refine nl ?_
  refine then_n ?_
  refine bk ?_
  refine lpM (α := Nat) [2, 4, 10, 11, 12, 13, 14, 15, 16, 17] (fun i => [(10, .int .i64 (i : Int))]) (fun i w' => i ≤ m ∧ (∀ j p, j < i → ps[j]? = some p → p.fit) ∧ SH w [] w' []) (fun i => m - i) 0 ?_ (fCX (fN _)) ?_
  ·exact ⟨by omega, fun j p hj => by omega, H⟩
  ·rintro i ρx w1 ⟨hi, hs, H⟩
   refine sq ?_
   refine rg ?_
   refine lss rfl rfl rfl ?_
   refine nl ?_
   refine then_n ?_
   refine sq ?_
   refine cd rfl (fun hc2 => ?_) (fun hc2 => ?_)
   ·obtain ⟨p, hpi⟩ : ∃ p, ps[i]? = some p := ⟨_, List.getElem?_eq_getElem (by omega)⟩
    obtain ⟨ad, rfl⟩ := hq.some_of (by omega)
    refine sk ?_
    refine then_n ?_
    refine sq ?_
    refine bk ?_
    refine sq ?_
    refine rg ?_
    refine iBN (ad.add (i * 8)) rfl rfl Tryd.underlying22 sz49_8 (by omega) (by simp) rfl ?_
    refine lw (vs := p.cells) rfl ag49_8 rfl (fun j v h => H.fr.cell (hq.elem hpi j v h) (by simp)) rfl ?_
    refine al H ze49 rfl ?_
    clear H; intro b1 w2 hb1 H _
    refine sa (cs' := p.cells) H rfl rfl ag49_8 rfl rfl (by decide) (by omega) rfl ?_
    clear H; intro w35 H _
    refine nl ?_
    refine then_n ?_
    refine sq ?_
    refine rg ?_
    refine la (vs := p.cells) H rfl ag49_8 rfl rfl rfl ?_
    refine cl ca37 (c_fits7 _ p) rfl ?_
    rintro _ w3 ⟨g7, rfl, g7h, F⟩
    replace H := H.keep F; clear F
    refine unot rfl rfl ?_
    refine nl ?_
    refine then_n ?_
    refine cn rfl (fun hc3 => ?_) (fun hc3 => ?_)
    ·refine sq ?_
     refine rg ?_
     refine asg (v := .bool _) rfl rfl ?_
     refine nl ?_
     refine then_n ?_
     refine rt ?_
     refine in_r ?_
     refine then_r ?_
     refine loop_r ?_
     refine in_r ?_
     refine then_r ?_
     refine fin_r ?_
     exact ⟨false, rfl, fun h => by exact Bool.noConfusion h, H.fr⟩
    ·refine sk ?_
     refine in_n ?_
     refine then_n ?_
     refine rg ?_
     refine add rfl rfl (by first | exact w_i64 (by omega) | exact w_i64 (rng_i64 _) | rfl) rfl ?_
     refine mv (v := .int .i64 _) rfl rfl ?_
     refine nl ?_
     refine loop_n ?_
     exact ⟨i + 1, (by (try dsimp only); omega), ⟨by omega, all_next hs hpi (g7h (by simpa using hc3)), H.subX⟩, (fCX (fN _)), agX⟩
   ·refine ex ?_
    refine then_e ?_
    refine loop_e ?_
    refine in_hit rfl ?_
    refine then_n ?_
    refine sq ?_
    refine rg ?_
    refine asg (v := .bool _) rfl rfl ?_
    refine nl ?_
    refine then_n ?_
    refine rt ?_
    refine fin_r ?_
    obtain rfl : i = m := by omega
    exact ⟨true, rfl, fun _ => ⟨by omega, all_mem (by omega) hs⟩, H.fr⟩
set_option maxRecDepth 100000 in
set_option maxHeartbeats 1000000 in
theorem c_fits5 (w : World) (D : Option Addr) (m c : Nat) (sec : Int) (g : List UInt8) (pr rc : Bool) (ps : List GP) (hq : RG w D m c ps) : Calls Tryd.prog 7 #[.agg (gtCells D m c sec g pr rc).toArray] w (Ret fun v w' => ∃ b, v = .bool b ∧ (b = true → m ≤ 2147483647 ∧ g.length ≤ 2147483647 ∧ ∀ p ∈ ps, p.fit) ∧ Fr [] w w') := by
 refine enter (fun ρ => ρ 2) Tryd.func7 rfl rfl rfl (res1 rfl) ?_
 have H := SH.nil w
 have s1 := size_str g
 refine sq ?_
 refine rg ?_
 refine bx (v := .agg _) H rfl rfl rfl ?_
 clear H; intro b1 w1 hb1 H _
 refine asg (v := .bool _) rfl rfl ?_
 refine nl ?_
 refine then_n ?_
 refine sq ?_
 refine sq ?_
 refine rg ?_
 refine fa rfl fo24_0 rfl ?_
 refine ld H rfl sc22 rfl rfl ?_
 refine cl ca19 (c_fits6 _ D m c ps (hq.keep H.fr)) rfl ?_
 rintro _ w2 ⟨g6, rfl, g6h, F⟩
 replace H := H.keep F; clear F
 refine unot rfl rfl ?_
 refine nl ?_
 refine then_n ?_
 refine cn rfl (fun hc1 => ?_) (fun hc1 => ?_)
 ·refine sq ?_
  refine rg ?_
  refine asg (v := .bool _) rfl rfl ?_
  refine nl ?_
  refine then_n ?_
  refine rt ?_
  refine then_r ?_
  refine fin_r ?_
  exact ⟨false, rfl, fun h => by exact Bool.noConfusion h, H.fr⟩
 ·refine sk ?_
  refine then_n ?_
  refine sq ?_
  refine sq ?_
  refine rg ?_
  refine fa rfl fo24_2 rfl ?_
  refine ld H rfl sc9 rfl rfl ?_
  refine lnT rfl Tryd.underlying9 rfl ?_
  refine gtr rfl rfl rfl ?_
  refine nl ?_
  refine then_n ?_
  refine cd rfl (fun hc2 => ?_) (fun hc2 => ?_)
  ·refine sq ?_
   refine rg ?_
   refine asg (v := .bool _) rfl rfl ?_
   refine nl ?_
   refine then_n ?_
   refine rt ?_
   refine then_r ?_
   refine fin_r ?_
   exact ⟨false, rfl, fun h => by exact Bool.noConfusion h, H.fr⟩
  ·refine sk ?_
   refine then_n ?_
   refine sq ?_
   refine rg ?_
   refine asg (v := .bool _) rfl rfl ?_
   refine nl ?_
   refine then_n ?_
   refine rt ?_
   refine fin_r ?_
   have h6 := g6h (by simpa using hc1)
   exact ⟨true, rfl, fun _ => ⟨h6.1, by omega, h6.2⟩, H.fr⟩
end Go.Proofs.YthcaejaaalkglaaDoor.X
/- Walks of functions, printed by a program of this claim. -/
namespace Go.Proofs.YthcaejaaalkglaaDoor.X
set_option linter.unusedVariables false
set_option linter.unusedSimpArgs false
open Go Go.RowKit
namespace PF
theorem ag85_2 : aggB Tryd.prog 85 2 = true := by kernel_rfl
theorem ca41 : callable Tryd.prog 41 = true := by kernel_rfl
theorem fo85_0 : fieldOff Tryd.prog 85 0 = some 0 := by kernel_rfl
theorem fo85_1 : fieldOff Tryd.prog 85 1 = some 1 := by kernel_rfl
theorem sz85_2 : sizeB Tryd.prog 85 2 = true := by kernel_rfl
theorem ze85 : zeroL Tryd.prog 85 = some [.int .u8 0, .int .u8 0] := by kernel_rfl
end PF
open PF
set_option maxRecDepth 100000 in
set_option maxHeartbeats 1000000 in
theorem c_word (w : World) (s : List UInt8) (hs : 8 ≤ s.length) : Calls Tryd.prog 41 #[.string (str s)] w (Ret fun v w' => ∃ x, v = .int .u64 x ∧ Fr [] w w') := by
 refine enter (fun ρ => ρ 2) Tryd.func41 rfl rfl rfl (res1 rfl) ?_
 have H := SH.nil w
 refine sq ?_
 refine rg ?_
 refine asg (v := .int .u64 _) rfl rfl ?_
 refine nl ?_
 refine then_n ?_
 refine sq ?_
 refine cbF rfl rfl ?_
 refine sk ?_
 refine then_n ?_
 refine sq ?_
 refine dr (by kernel_rfl) ?_
 have H := H.drew
 refine hold (fun _ => True) [] ?_
 refine tk (i := 0) rfl (by kernel_rfl) rfl trivial (fun _ _ => r_mv (v := .string _) rfl) ?_
 refine tk (i := 1) rfl (by kernel_rfl) rfl trivial (fun _ _ => r_ixS rfl rfl Tryd.underlying9 (by first | omega | (constructor <;> simp <;> omega))) ?_
 refine tk (i := 2) rfl (by kernel_rfl) rfl trivial (fun _ _ => r_cvi rfl rfl Tryd.underlying28 (by first | exact w_u64 (by omega) | exact w_u64 (rng_u64 _) | exact m_u64 _)) ?_
 refine tk (i := 3) rfl (by kernel_rfl) rfl trivial (fun _ _ => r_mv (v := .string _) rfl) ?_
 refine tk (i := 4) rfl (by kernel_rfl) rfl trivial (fun _ _ => r_ixS rfl rfl Tryd.underlying9 (by first | omega | (constructor <;> simp <;> omega))) ?_
 refine tk (i := 5) rfl (by kernel_rfl) rfl trivial (fun _ _ => r_cvi rfl rfl Tryd.underlying28 (by first | exact w_u64 (by omega) | exact w_u64 (rng_u64 _) | exact m_u64 _)) ?_
 refine tk (i := 6) rfl (by kernel_rfl) rfl trivial (fun _ _ => r_shlK (s := 8) (p := 256) rfl rfl (by decide) (by decide) (by first | exact w_u64 (by omega) | exact w_u64 (rng_u64 _) | exact m_u64 _)) ?_
 refine tk (i := 7) rfl (by kernel_rfl) rfl trivial (fun _ _ => r_bor rfl rfl rfl) ?_
 refine tk (i := 8) rfl (by kernel_rfl) rfl trivial (fun _ _ => r_mv (v := .string _) rfl) ?_
 refine tk (i := 9) rfl (by kernel_rfl) rfl trivial (fun _ _ => r_ixS rfl rfl Tryd.underlying9 (by first | omega | (constructor <;> simp <;> omega))) ?_
 refine tk (i := 10) rfl (by kernel_rfl) rfl trivial (fun _ _ => r_cvi rfl rfl Tryd.underlying28 (by first | exact w_u64 (by omega) | exact w_u64 (rng_u64 _) | exact m_u64 _)) ?_
 refine tk (i := 11) rfl (by kernel_rfl) rfl trivial (fun _ _ => r_shlK (s := 16) (p := 65536) rfl rfl (by decide) (by decide) (by first | exact w_u64 (by omega) | exact w_u64 (rng_u64 _) | exact m_u64 _)) ?_
 refine tk (i := 12) rfl (by kernel_rfl) rfl trivial (fun _ _ => r_bor rfl rfl rfl) ?_
 refine tk (i := 13) rfl (by kernel_rfl) rfl trivial (fun _ _ => r_mv (v := .string _) rfl) ?_
 refine tk (i := 14) rfl (by kernel_rfl) rfl trivial (fun _ _ => r_ixS rfl rfl Tryd.underlying9 (by first | omega | (constructor <;> simp <;> omega))) ?_
 refine tk (i := 15) rfl (by kernel_rfl) rfl trivial (fun _ _ => r_cvi rfl rfl Tryd.underlying28 (by first | exact w_u64 (by omega) | exact w_u64 (rng_u64 _) | exact m_u64 _)) ?_
 refine tk (i := 16) rfl (by kernel_rfl) rfl trivial (fun _ _ => r_shlK (s := 24) (p := 16777216) rfl rfl (by decide) (by decide) (by first | exact w_u64 (by omega) | exact w_u64 (rng_u64 _) | exact m_u64 _)) ?_
 refine tk (i := 17) rfl (by kernel_rfl) rfl trivial (fun _ _ => r_bor rfl rfl rfl) ?_
 refine tk (i := 18) rfl (by kernel_rfl) rfl trivial (fun _ _ => r_mv (v := .string _) rfl) ?_
 refine tk (i := 19) rfl (by kernel_rfl) rfl trivial (fun _ _ => r_ixS rfl rfl Tryd.underlying9 (by first | omega | (constructor <;> simp <;> omega))) ?_
 refine tk (i := 20) rfl (by kernel_rfl) rfl trivial (fun _ _ => r_cvi rfl rfl Tryd.underlying28 (by first | exact w_u64 (by omega) | exact w_u64 (rng_u64 _) | exact m_u64 _)) ?_
 refine tk (i := 21) rfl (by kernel_rfl) rfl trivial (fun _ _ => r_shlK (s := 32) (p := 4294967296) rfl rfl (by decide) (by decide) (by first | exact w_u64 (by omega) | exact w_u64 (rng_u64 _) | exact m_u64 _)) ?_
 refine tk (i := 22) rfl (by kernel_rfl) rfl trivial (fun _ _ => r_bor rfl rfl rfl) ?_
 refine tk (i := 23) rfl (by kernel_rfl) rfl trivial (fun _ _ => r_mv (v := .string _) rfl) ?_
 refine tk (i := 24) rfl (by kernel_rfl) rfl trivial (fun _ _ => r_ixS rfl rfl Tryd.underlying9 (by first | omega | (constructor <;> simp <;> omega))) ?_
 refine tk (i := 25) rfl (by kernel_rfl) rfl trivial (fun _ _ => r_cvi rfl rfl Tryd.underlying28 (by first | exact w_u64 (by omega) | exact w_u64 (rng_u64 _) | exact m_u64 _)) ?_
 refine tk (i := 26) rfl (by kernel_rfl) rfl trivial (fun _ _ => r_shlK (s := 40) (p := 1099511627776) rfl rfl (by decide) (by decide) (by first | exact w_u64 (by omega) | exact w_u64 (rng_u64 _) | exact m_u64 _)) ?_
 refine tk (i := 27) rfl (by kernel_rfl) rfl trivial (fun _ _ => r_bor rfl rfl rfl) ?_
 refine tk (i := 28) rfl (by kernel_rfl) rfl trivial (fun _ _ => r_mv (v := .string _) rfl) ?_
 refine tk (i := 29) rfl (by kernel_rfl) rfl trivial (fun _ _ => r_ixS rfl rfl Tryd.underlying9 (by first | omega | (constructor <;> simp <;> omega))) ?_
 refine tk (i := 30) rfl (by kernel_rfl) rfl trivial (fun _ _ => r_cvi rfl rfl Tryd.underlying28 (by first | exact w_u64 (by omega) | exact w_u64 (rng_u64 _) | exact m_u64 _)) ?_
 refine tk (i := 31) rfl (by kernel_rfl) rfl trivial (fun _ _ => r_shlK (s := 48) (p := 281474976710656) rfl rfl (by decide) (by decide) (by first | exact w_u64 (by omega) | exact w_u64 (rng_u64 _) | exact m_u64 _)) ?_
 refine tk (i := 32) rfl (by kernel_rfl) rfl trivial (fun _ _ => r_bor rfl rfl rfl) ?_
 refine tk (i := 33) rfl (by kernel_rfl) rfl trivial (fun _ _ => r_mv (v := .string _) rfl) ?_
 refine tk (i := 34) rfl (by kernel_rfl) rfl trivial (fun _ _ => r_ixS rfl rfl Tryd.underlying9 (by first | omega | (constructor <;> simp <;> omega))) ?_
 refine tk (i := 35) rfl (by kernel_rfl) rfl trivial (fun _ _ => r_cvi rfl rfl Tryd.underlying28 (by first | exact w_u64 (by omega) | exact w_u64 (rng_u64 _) | exact m_u64 _)) ?_
 refine tk (i := 36) rfl (by kernel_rfl) rfl trivial (fun _ _ => r_shlK (s := 56) (p := 72057594037927936) rfl rfl (by decide) (by decide) (by first | exact w_u64 (by omega) | exact w_u64 (rng_u64 _) | exact m_u64 _)) ?_
 refine tk (i := 37) rfl (by kernel_rfl) rfl trivial (fun _ _ => r_bor rfl rfl rfl) ?_
 refine tk (i := 38) rfl (by kernel_rfl) rfl trivial (fun _ _ => r_asg (v := .int .u64 _) rfl) ?_
 refine unfree ?_
 refine dn (by kernel_rfl) ?_
 refine then_n ?_
 refine rt ?_
 refine fin_r ?_
 exact ⟨_, rfl, H.fr⟩
set_option maxRecDepth 100000 in
set_option maxHeartbeats 2000000 in
theorem c_valid (w : World) (s : List UInt8) (hU : Utf8W w) (hs : s.length ≤ 2147483647) : Calls Tryd.prog 24 #[.string (str s)] w (Ret fun v w' => ∃ b, v = .bool b ∧ Fr [] w w') := by
 refine enter (fun ρ => ρ 2) Tryd.func24 rfl rfl rfl (res1 rfl) ?_
 have H := SH.nil w
 refine sq ?_
 refine rg ?_
 refine asg (v := .bool _) rfl rfl ?_
 refine nl ?_
 refine then_n ?_
 refine sq ?_
 refine bk ?_
 refine lpM (α := List UInt8) [0, 2, 3, 4, 5, 6, 7, 8, 9, 10, 11, 12, 13, 14, 15, 16, 17, 18, 19, 20, 21, 22, 23, 24, 25, 26, 27, 28, 29, 30, 31, 32, 33, 34, 35, 36, 37, 38, 39, 40, 41, 42, 43, 44, 45, 46, 47, 48, 49, 50, 51, 52, 53, 54, 55, 56, 57, 58, 59, 60, 61, 62, 63, 64, 65, 66, 67, 68, 69, 70, 71, 72, 73, 74, 75, 76, 77, 78, 79, 80, 81, 82, 83, 84, 85, 86, 87, 88, 89, 90, 91, 92, 93, 94, 95, 96, 97, 98, 99, 100, 101, 102, 103, 104, 105, 106, 107, 108, 109, 110, 111, 112, 113, 114, 115, 116, 117, 118, 119, 120, 121, 122, 123, 124, 125, 126, 127, 128, 129, 130, 131, 132, 133, 134, 135, 136, 137, 138, 139, 140, 141, 142, 143, 144, 145, 146, 147, 148, 149, 150, 151, 152, 153, 154, 155, 156, 157, 158, 159, 160, 161, 162, 163, 164, 165, 166, 167, 168] (fun l => [(0, .string (str l))]) (fun l w' => l.length ≤ s.length ∧ SH w [] w' []) (fun l => l.length) s ?_ (fCX (fN _)) ?_
 ·exact ⟨by omega, H⟩
 ·rintro l ρx w1 ⟨hl, H⟩
  have hz := size_str l
  refine sq ?_
  refine sq ?_
  refine rg ?_
  refine mv (v := .string _) rfl rfl ?_
  refine lnT rfl Tryd.underlying9 rfl ?_
  refine gtr rfl rfl rfl ?_
  refine nl ?_
  refine then_n ?_
  refine cd rfl (fun hc1 => ?_) (fun hc1 => ?_)
  ·refine sk ?_
   refine then_n ?_
   refine bk ?_
   refine sq ?_
   refine rg ?_
   refine mv (v := .string _) rfl rfl ?_
   refine ixS rfl rfl Tryd.underlying9 (by first | omega | (constructor <;> simp <;> omega)) rfl ?_; intro hu1
   refine asg (v := .int .u8 _) rfl rfl ?_
   refine nl ?_
   refine then_n ?_
   refine sq ?_
   refine sq ?_
   refine rg ?_
   refine mv (v := .int .u8 _) rfl rfl ?_
   refine lss rfl rfl rfl ?_
   refine nl ?_
   refine then_n ?_
   refine cd rfl (fun hc2 => ?_) (fun hc2 => ?_)
   ·have hz1 : (str (List.drop (Int.toNat 1) l)).size = l.length - 1 := by rw [size_str, List.length_drop]; rfl
    have hz9 : (str (List.drop (Int.toNat 8) (List.drop (Int.toNat 1) l))).size = l.length - 1 - 8 := by rw [size_str, List.length_drop, List.length_drop]; rfl
    refine sq ?_
    refine rg ?_
    refine mv (v := .string _) rfl rfl ?_
    refine slTl rfl rfl Tryd.underlying9 (by first | trivial | omega | (simp; omega)) rfl ?_
    refine asg (v := .string _) rfl rfl ?_
    refine nl ?_
    refine then_n ?_
    refine sq ?_
    refine sq ?_
    refine rg ?_
    refine mv (v := .string _) rfl rfl ?_
    refine lnT rfl Tryd.underlying9 rfl ?_
    refine gtr rfl rfl rfl ?_
    refine mv (v := .bool _) rfl rfl ?_
    refine spd (t := 19) rfl (fun hg1 => ?_) (fun hg1 => ?_)
    ·refine gy rfl ?_
     refine mv (v := .string _) rfl rfl ?_
     refine gy rfl ?_
     refine cl ca41 (c_word _ _ (by first | omega | (simp <;> omega))) rfl ?_
     rintro _ w2 ⟨x1, rfl, F⟩
     replace H := H.keep F; clear F
     refine gy rfl ?_
     refine band rfl rfl rfl rfl ?_
     refine gy rfl ?_
     refine eql rfl rfl rfl ?_
     refine pkT (v := .bool _) rfl rfl rfl ?_
     refine nl ?_
     refine then_n ?_
     refine cd rfl (fun hc3 => ?_) (fun hc3 => ?_)
     ·refine sq ?_
      refine rg ?_
      refine mv (v := .string _) rfl rfl ?_
      refine slTl rfl rfl Tryd.underlying9 (by first | trivial | omega | (simp; omega)) rfl ?_
      refine asg (v := .string _) rfl rfl ?_
      refine nl ?_
      refine then_n ?_
      refine sq ?_
      refine dr (by kernel_rfl) ?_
      have H := H.drew
      refine holdH H [] ?_
      refine tk (i := 0) rfl (by kernel_rfl) rfl H (fun w' H => r_mv (v := .string _) rfl) ?_
      refine tk (i := 1) rfl (by kernel_rfl) rfl H (fun w' H => r_lnT rfl Tryd.underlying9) ?_
      refine tk (i := 2) rfl (by kernel_rfl) rfl H (fun w' H => r_gtr rfl rfl) ?_
      refine tk (i := 3) rfl (by kernel_rfl) rfl H (fun w' H => r_mv (v := .bool _) rfl) ?_
      refine spad (t := 30) rfl (fun hg2 => ?_) (fun hg2 => ?_)
      ·refine tkg (i := 4) rfl (by kernel_rfl) rfl H rfl (fun w' H => r_mv (v := .string _) rfl) ?_
       refine tkg (i := 6) rfl (by kernel_rfl) rfl H rfl (fun w' H => r_mv (v := .string _) rfl) ?_
       refine tkg (i := 7) rfl (by kernel_rfl) rfl H rfl (fun w' H => r_slTl rfl rfl Tryd.underlying9 (by first | trivial | omega | (simp; omega))) ?_
       refine fk (i := 5) (by kernel_rfl) rfl rfl rfl ?_
       refine gy rfl ?_
       refine cl ca41 (c_word _ _ (by first | omega | (simp <;> omega))) rfl ?_
       rintro _ w3 ⟨x2, rfl, F⟩
       replace H := H.keep F; clear F
       refine nl ?_
       refine then_n ?_
       refine ⟨H, ?_⟩
       refine fk (i := 8) (by kernel_rfl) rfl rfl rfl ?_
       refine gy rfl ?_
       refine cl ca41 (c_word _ _ (by first | omega | (simp <;> omega))) rfl ?_
       rintro _ w4 ⟨x3, rfl, F⟩
       replace H := H.keep F; clear F
       refine nl ?_
       refine then_n ?_
       refine ⟨H, ?_⟩
       refine tkg (i := 9) rfl (by kernel_rfl) rfl H rfl (fun w' H => r_bor rfl rfl rfl) ?_
       refine tkg (i := 10) rfl (by kernel_rfl) rfl H rfl (fun w' H => r_band rfl rfl rfl) ?_
       refine tkg (i := 11) rfl (by kernel_rfl) rfl H rfl (fun w' H => r_eql rfl rfl) ?_
       refine tk (i := 12) rfl (by kernel_rfl) rfl H (fun w' H => r_pkT (v := .bool _) rfl rfl) ?_
       refine da (by kernel_rfl) ?_
       refine then_n ?_
       refine cd rfl (fun hc4 => ?_) (fun hc4 => ?_)
       ·refine sq ?_
        refine rg ?_
        refine mv (v := .string _) rfl rfl ?_
        refine slTl rfl rfl Tryd.underlying9 (by first | trivial | omega | (simp; omega)) rfl ?_
        refine asg (v := .string _) rfl rfl ?_
        refine nl ?_
        refine then_n ?_
        refine bk ?_
        refine lpM (α := List UInt8) [0, 42, 43, 44, 45, 46, 47, 48, 49, 50, 51, 52, 53, 54, 55, 56, 57, 58, 59, 60, 61, 62, 63, 64] (fun k => [(0, .string (str k))]) (fun k w' => k.length < l.length ∧ SH w [] w' []) (fun k => k.length) (List.drop (Int.toNat 16) (List.drop (Int.toNat 8) (List.drop (Int.toNat 1) l))) ?_ (fCX (fN _)) ?_
        ·exact ⟨by simp <;> omega, H⟩
        ·rintro k ρx w5 ⟨hk, H⟩
         have hzk := size_str k
         refine sq ?_
         refine sq ?_
         refine dr (by kernel_rfl) ?_
         have H := H.drew
         refine holdH H [] ?_
         refine tk (i := 0) rfl (by kernel_rfl) rfl H (fun w' H => r_mv (v := .string _) rfl) ?_
         refine tk (i := 1) rfl (by kernel_rfl) rfl H (fun w' H => r_lnT rfl Tryd.underlying9) ?_
         refine tk (i := 2) rfl (by kernel_rfl) rfl H (fun w' H => r_gtr rfl rfl) ?_
         refine tk (i := 3) rfl (by kernel_rfl) rfl H (fun w' H => r_mv (v := .bool _) rfl) ?_
         refine spad (t := 45) rfl (fun hg3 => ?_) (fun hg3 => ?_)
         ·refine tkg (i := 4) rfl (by kernel_rfl) rfl H rfl (fun w' H => r_mv (v := .string _) rfl) ?_
          refine tkg (i := 6) rfl (by kernel_rfl) rfl H rfl (fun w' H => r_mv (v := .string _) rfl) ?_
          refine tkg (i := 7) rfl (by kernel_rfl) rfl H rfl (fun w' H => r_slTl rfl rfl Tryd.underlying9 (by first | trivial | omega | (simp; omega))) ?_
          refine tkg (i := 10) rfl (by kernel_rfl) rfl H rfl (fun w' H => r_mv (v := .string _) rfl) ?_
          refine tkg (i := 11) rfl (by kernel_rfl) rfl H rfl (fun w' H => r_slTl rfl rfl Tryd.underlying9 (by first | trivial | omega | (simp; omega))) ?_
          refine tkg (i := 13) rfl (by kernel_rfl) rfl H rfl (fun w' H => r_mv (v := .string _) rfl) ?_
          refine tkg (i := 14) rfl (by kernel_rfl) rfl H rfl (fun w' H => r_slTl rfl rfl Tryd.underlying9 (by first | trivial | omega | (simp; omega))) ?_
          refine fk (i := 5) (by kernel_rfl) rfl rfl rfl ?_
          refine gy rfl ?_
          refine cl ca41 (c_word _ _ (by first | omega | (simp <;> omega))) rfl ?_
          rintro _ w6 ⟨x4, rfl, F⟩
          replace H := H.keep F; clear F
          refine nl ?_
          refine then_n ?_
          refine ⟨H, ?_⟩
          refine fk (i := 8) (by kernel_rfl) rfl rfl rfl ?_
          refine gy rfl ?_
          refine cl ca41 (c_word _ _ (by first | omega | (simp <;> omega))) rfl ?_
          rintro _ w7 ⟨x5, rfl, F⟩
          replace H := H.keep F; clear F
          refine nl ?_
          refine then_n ?_
          refine ⟨H, ?_⟩
          refine tkg (i := 9) rfl (by kernel_rfl) rfl H rfl (fun w' H => r_bor rfl rfl rfl) ?_
          refine fk (i := 12) (by kernel_rfl) rfl rfl rfl ?_
          refine gy rfl ?_
          refine cl ca41 (c_word _ _ (by first | omega | (simp <;> omega))) rfl ?_
          rintro _ w8 ⟨x6, rfl, F⟩
          replace H := H.keep F; clear F
          refine nl ?_
          refine then_n ?_
          refine ⟨H, ?_⟩
          refine fk (i := 15) (by kernel_rfl) rfl rfl rfl ?_
          refine gy rfl ?_
          refine cl ca41 (c_word _ _ (by first | omega | (simp <;> omega))) rfl ?_
          rintro _ w9 ⟨x7, rfl, F⟩
          replace H := H.keep F; clear F
          refine nl ?_
          refine then_n ?_
          refine ⟨H, ?_⟩
          refine tkg (i := 16) rfl (by kernel_rfl) rfl H rfl (fun w' H => r_bor rfl rfl rfl) ?_
          refine tkg (i := 17) rfl (by kernel_rfl) rfl H rfl (fun w' H => r_bor rfl rfl rfl) ?_
          refine tkg (i := 18) rfl (by kernel_rfl) rfl H rfl (fun w' H => r_band rfl rfl rfl) ?_
          refine tkg (i := 19) rfl (by kernel_rfl) rfl H rfl (fun w' H => r_eql rfl rfl) ?_
          refine tk (i := 20) rfl (by kernel_rfl) rfl H (fun w' H => r_pkT (v := .bool _) rfl rfl) ?_
          refine da (by kernel_rfl) ?_
          refine then_n ?_
          refine cd rfl (fun hc5 => ?_) (fun hc5 => ?_)
          ·refine sk ?_
           refine then_n ?_
           refine bk ?_
           refine rg ?_
           refine mv (v := .string _) rfl rfl ?_
           refine slTl rfl rfl Tryd.underlying9 (by first | trivial | omega | (simp; omega)) rfl ?_
           refine asg (v := .string _) rfl rfl ?_
           refine nl ?_
           refine in_n ?_
           refine loop_n ?_
           exact ⟨List.drop (Int.toNat 32) k, (by (try dsimp only); simp <;> omega), ⟨by simp <;> omega, H⟩, (fCX (fN _)), agX⟩
          ·refine ex ?_
           refine then_e ?_
           refine loop_e ?_
           refine in_hit rfl ?_
           refine then_n ?_
           refine ex ?_
           refine then_e ?_
           refine in_hit rfl ?_
           refine loop_n ?_
           exact ⟨k, (by (try dsimp only); omega), ⟨by omega, H⟩, (fCX (fN _)), agX⟩
         ·refine tkn (i := 4) rfl (by kernel_rfl) rfl H rfl ?_
          refine tkn (i := 5) rfl (by kernel_rfl) rfl H rfl ?_
          refine tkn (i := 6) rfl (by kernel_rfl) rfl H rfl ?_
          refine tkn (i := 7) rfl (by kernel_rfl) rfl H rfl ?_
          refine tkn (i := 8) rfl (by kernel_rfl) rfl H rfl ?_
          refine tkn (i := 9) rfl (by kernel_rfl) rfl H rfl ?_
          refine tkn (i := 10) rfl (by kernel_rfl) rfl H rfl ?_
          refine tkn (i := 11) rfl (by kernel_rfl) rfl H rfl ?_
          refine tkn (i := 12) rfl (by kernel_rfl) rfl H rfl ?_
          refine tkn (i := 13) rfl (by kernel_rfl) rfl H rfl ?_
          refine tkn (i := 14) rfl (by kernel_rfl) rfl H rfl ?_
          refine tkn (i := 15) rfl (by kernel_rfl) rfl H rfl ?_
          refine tkn (i := 16) rfl (by kernel_rfl) rfl H rfl ?_
          refine tkn (i := 17) rfl (by kernel_rfl) rfl H rfl ?_
          refine tkn (i := 18) rfl (by kernel_rfl) rfl H rfl ?_
          refine tkn (i := 19) rfl (by kernel_rfl) rfl H rfl ?_
          refine tk (i := 20) rfl (by kernel_rfl) rfl H (fun w' H => r_pkF (v := .bool _) rfl rfl) ?_
          refine da (by kernel_rfl) ?_
          refine then_n ?_
          refine cbF rfl rfl ?_
          refine ex ?_
          refine then_e ?_
          refine loop_e ?_
          refine in_hit rfl ?_
          refine then_n ?_
          refine ex ?_
          refine then_e ?_
          refine in_hit rfl ?_
          refine loop_n ?_
          exact ⟨k, (by (try dsimp only); omega), ⟨by omega, H⟩, (fCX (fN _)), agX⟩
       ·refine sk ?_
        refine then_n ?_
        refine ex ?_
        refine then_e ?_
        refine in_hit rfl ?_
        refine loop_n ?_
        exact ⟨List.drop (Int.toNat 8) (List.drop (Int.toNat 1) l), (by (try dsimp only); simp <;> omega), ⟨by simp <;> omega, H⟩, (fCX (fN _)), agX⟩
      ·refine tkn (i := 4) rfl (by kernel_rfl) rfl H rfl ?_
       refine tkn (i := 5) rfl (by kernel_rfl) rfl H rfl ?_
       refine tkn (i := 6) rfl (by kernel_rfl) rfl H rfl ?_
       refine tkn (i := 7) rfl (by kernel_rfl) rfl H rfl ?_
       refine tkn (i := 8) rfl (by kernel_rfl) rfl H rfl ?_
       refine tkn (i := 9) rfl (by kernel_rfl) rfl H rfl ?_
       refine tkn (i := 10) rfl (by kernel_rfl) rfl H rfl ?_
       refine tkn (i := 11) rfl (by kernel_rfl) rfl H rfl ?_
       refine tk (i := 12) rfl (by kernel_rfl) rfl H (fun w' H => r_pkF (v := .bool _) rfl rfl) ?_
       refine da (by kernel_rfl) ?_
       refine then_n ?_
       refine cbF rfl rfl ?_
       refine sk ?_
       refine then_n ?_
       refine ex ?_
       refine then_e ?_
       refine in_hit rfl ?_
       refine loop_n ?_
       exact ⟨List.drop (Int.toNat 8) (List.drop (Int.toNat 1) l), (by (try dsimp only); simp <;> omega), ⟨by simp <;> omega, H⟩, (fCX (fN _)), agX⟩
     ·refine sk ?_
      refine then_n ?_
      refine ex ?_
      refine then_e ?_
      refine in_hit rfl ?_
      refine loop_n ?_
      exact ⟨List.drop (Int.toNat 1) l, (by (try dsimp only); simp <;> omega), ⟨by simp <;> omega, H⟩, (fCX (fN _)), agX⟩
    ·refine gn rfl rfl ?_
     refine gn rfl rfl ?_
     refine gn rfl rfl ?_
     refine gn rfl rfl ?_
     refine pkF (v := .bool _) rfl rfl rfl ?_
     refine nl ?_
     refine then_n ?_
     refine cbF rfl rfl ?_
     refine sk ?_
     refine then_n ?_
     refine ex ?_
     refine then_e ?_
     refine in_hit rfl ?_
     refine loop_n ?_
     exact ⟨List.drop (Int.toNat 1) l, (by (try dsimp only); simp <;> omega), ⟨by simp <;> omega, H⟩, (fCX (fN _)), agX⟩
   ·refine sk ?_
    refine then_n ?_
    refine sq ?_
    refine rg ?_
    refine mv (v := .int .u8 _) rfl rfl ?_
    refine iyN ((l.getD (Int.toNat 0) 0).toNat) rfl rfl Tryd.underlying83 sz5_1 (by omega) (by omega) rfl ?_
    obtain ⟨fc, hfr, hfc⟩ := hU.1 (l.getD (Int.toNat 0) 0).toNat (by omega)
    refine lc (v := .int .u8 fc) rfl (H.fr.cell hfc (by simp)) sc5 rfl ?_
    refine asg (v := .int .u8 _) rfl rfl ?_
    refine nl ?_
    refine then_n ?_
    refine sq ?_
    refine rg ?_
    refine mv (v := .int .u8 _) rfl rfl ?_
    refine band rfl rfl rfl rfl ?_
    refine cvi rfl rfl Tryd.underlying3 (by first | exact w_i64 (by omega) | exact w_i64 (rng_i64 _) | rfl) rfl ?_
    refine asg (v := .int .i64 _) rfl rfl ?_
    refine nl ?_
    refine then_n ?_
    refine sq ?_
    refine rg ?_
    refine mv (v := .int .u8 _) rfl rfl ?_
    refine shrK (s := 4) (p := 16) rfl rfl (by decide) (by decide) rfl rfl ?_
    refine iyN ((fc / 16).toNat * 2) rfl rfl Tryd.underlying86 sz85_2 (by omega) (by omega) rfl ?_
    obtain ⟨ra, rb, hrr, hrc⟩ := hU.two (i := (fc / 16).toNat) (by omega)
    refine lw (vs := [.int .u8 ra, .int .u8 rb]) rfl ag85_2 rfl (fun j v h => H.fr.cell (hrc j v h) (by simp)) rfl ?_
    refine al H ze85 rfl ?_
    clear H; intro b8 w10 hb8 H _
    refine sa H rfl rfl ag85_2 rfl rfl (by decide) (by omega) rfl ?_
    clear H; intro w11 H _
    refine nl ?_
    refine then_n ?_
    refine sq ?_
    refine rg ?_
    refine mv (v := .int .i64 _) rfl rfl ?_
    refine nl ?_
    refine then_n ?_
    refine bk ?_
    refine sq ?_
    refine rg ?_
    refine eql rfl rfl rfl ?_
    refine asg (v := .bool _) rfl rfl ?_
    refine nl ?_
    refine then_n ?_
    refine cd rfl (fun hc6 => ?_) (fun hc6 => ?_)
    ·refine sq ?_
     refine sq ?_
     refine dr (by kernel_rfl) ?_
     have H := H.drew
     refine holdH H [] ?_
     refine tk (i := 0) rfl (by kernel_rfl) rfl H (fun w' H => r_mv (v := .string _) rfl) ?_
     refine tk (i := 1) rfl (by kernel_rfl) rfl H (fun w' H => r_lnT rfl Tryd.underlying9) ?_
     refine tk (i := 2) rfl (by kernel_rfl) rfl H (fun w' H => r_lss rfl rfl) ?_
     refine tk (i := 3) rfl (by kernel_rfl) rfl H (fun w' H => r_mv (v := .bool _) rfl) ?_
     refine spad (t := 81) rfl (fun hg4 => ?_) (fun hg4 => ?_)
     ·refine tkn (i := 4) rfl (by kernel_rfl) rfl H rfl ?_
      refine tkn (i := 5) rfl (by kernel_rfl) rfl H rfl ?_
      refine tkn (i := 6) rfl (by kernel_rfl) rfl H rfl ?_
      refine tkn (i := 7) rfl (by kernel_rfl) rfl H rfl ?_
      refine tkn (i := 8) rfl (by kernel_rfl) rfl H rfl ?_
      refine tk (i := 9) rfl (by kernel_rfl) rfl H (fun w' H => r_pkT (v := .bool _) rfl rfl) ?_
      refine tk (i := 10) rfl (by kernel_rfl) rfl H (fun w' H => r_mv (v := .bool _) rfl) ?_
      refine tkn (i := 11) rfl (by kernel_rfl) rfl H rfl ?_
      refine tkn (i := 12) rfl (by kernel_rfl) rfl H rfl ?_
      refine tkn (i := 13) rfl (by kernel_rfl) rfl H rfl ?_
      refine tkn (i := 14) rfl (by kernel_rfl) rfl H rfl ?_
      refine tkn (i := 15) rfl (by kernel_rfl) rfl H rfl ?_
      refine tk (i := 16) rfl (by kernel_rfl) rfl H (fun w' H => r_pkT (v := .bool _) rfl rfl) ?_
      refine da (by kernel_rfl) ?_
      refine then_n ?_
      refine cbT rfl rfl ?_
      refine sq ?_
      refine rg ?_
      refine asg (v := .bool _) rfl rfl ?_
      refine nl ?_
      refine then_n ?_
      refine rt ?_
      refine then_r ?_
      refine in_r ?_
      refine in_r ?_
      refine loop_r ?_
      refine in_r ?_
      refine then_r ?_
      refine fin_r ?_
      exact ⟨_, rfl, H.fr⟩
     ·refine tkg (i := 4) rfl (by kernel_rfl) rfl H rfl (fun w' H => r_mv (v := .string _) rfl) ?_
      refine tkg (i := 5) rfl (by kernel_rfl) rfl H rfl (fun w' H => r_ixS rfl rfl Tryd.underlying9 (by first | omega | (constructor <;> simp <;> omega))) ?_
      refine tkg (i := 6) rfl (by kernel_rfl) rfl H rfl (fun w' H => r_fa rfl fo85_0) ?_
      refine tkg (i := 7) rfl (by kernel_rfl) rfl H rfl (fun w' H => r_ld H rfl sc5 rfl) ?_
      refine tkg (i := 8) rfl (by kernel_rfl) rfl H rfl (fun w' H => r_lss rfl rfl) ?_
      refine tk (i := 9) rfl (by kernel_rfl) rfl H (fun w' H => r_pkF (v := .bool _) rfl rfl) ?_
      refine tk (i := 10) rfl (by kernel_rfl) rfl H (fun w' H => r_mv (v := .bool _) rfl) ?_
      refine spad (t := 88) rfl (fun hg5 => ?_) (fun hg5 => ?_)
      ·refine tkn (i := 11) rfl (by kernel_rfl) rfl H rfl ?_
       refine tkn (i := 12) rfl (by kernel_rfl) rfl H rfl ?_
       refine tkn (i := 13) rfl (by kernel_rfl) rfl H rfl ?_
       refine tkn (i := 14) rfl (by kernel_rfl) rfl H rfl ?_
       refine tkn (i := 15) rfl (by kernel_rfl) rfl H rfl ?_
       refine tk (i := 16) rfl (by kernel_rfl) rfl H (fun w' H => r_pkT (v := .bool _) rfl rfl) ?_
       refine da (by kernel_rfl) ?_
       refine then_n ?_
       refine cbT rfl rfl ?_
       refine sq ?_
       refine rg ?_
       refine asg (v := .bool _) rfl rfl ?_
       refine nl ?_
       refine then_n ?_
       refine rt ?_
       refine then_r ?_
       refine in_r ?_
       refine in_r ?_
       refine loop_r ?_
       refine in_r ?_
       refine then_r ?_
       refine fin_r ?_
       exact ⟨_, rfl, H.fr⟩
      ·refine tkg (i := 11) rfl (by kernel_rfl) rfl H rfl (fun w' H => r_fa rfl fo85_1) ?_
       refine tkg (i := 12) rfl (by kernel_rfl) rfl H rfl (fun w' H => r_ld H rfl sc5 rfl) ?_
       refine tkg (i := 13) rfl (by kernel_rfl) rfl H rfl (fun w' H => r_mv (v := .string _) rfl) ?_
       refine tkg (i := 14) rfl (by kernel_rfl) rfl H rfl (fun w' H => r_ixS rfl rfl Tryd.underlying9 (by first | omega | (constructor <;> simp <;> omega))) ?_
       refine tkg (i := 15) rfl (by kernel_rfl) rfl H rfl (fun w' H => r_lss rfl rfl) ?_
       refine tk (i := 16) rfl (by kernel_rfl) rfl H (fun w' H => r_pkF (v := .bool _) rfl rfl) ?_
       refine da (by kernel_rfl) ?_
       refine then_n ?_
       refine cd rfl (fun hc7 => ?_) (fun hc7 => ?_)
       ·refine sq ?_
        refine rg ?_
        refine asg (v := .bool _) rfl rfl ?_
        refine nl ?_
        refine then_n ?_
        refine rt ?_
        refine then_r ?_
        refine in_r ?_
        refine in_r ?_
        refine loop_r ?_
        refine in_r ?_
        refine then_r ?_
        refine fin_r ?_
        exact ⟨_, rfl, H.fr⟩
       ·refine sk ?_
        refine then_n ?_
        refine rg ?_
        refine mv (v := .string _) rfl rfl ?_
        refine slTl rfl rfl Tryd.underlying9 (by first | trivial | omega | (simp; omega)) rfl ?_
        refine asg (v := .string _) rfl rfl ?_
        refine nl ?_
        refine in_n ?_
        refine in_n ?_
        refine loop_n ?_
        exact ⟨List.drop (Int.toNat 2) l, (by (try dsimp only); simp <;> omega), ⟨by simp <;> omega, H.subX⟩, (fCX (fN _)), agX⟩
    ·refine sq ?_
     refine rg ?_
     refine eql rfl rfl rfl ?_
     refine asg (v := .bool _) rfl rfl ?_
     refine nl ?_
     refine then_n ?_
     refine cd rfl (fun hc8 => ?_) (fun hc8 => ?_)
     ·refine sq ?_
      refine sq ?_
      refine dr (by kernel_rfl) ?_
      have H := H.drew
      refine holdH H [] ?_
      refine tk (i := 0) rfl (by kernel_rfl) rfl H (fun w' H => r_mv (v := .string _) rfl) ?_
      refine tk (i := 1) rfl (by kernel_rfl) rfl H (fun w' H => r_lnT rfl Tryd.underlying9) ?_
      refine tk (i := 2) rfl (by kernel_rfl) rfl H (fun w' H => r_lss rfl rfl) ?_
      refine tk (i := 3) rfl (by kernel_rfl) rfl H (fun w' H => r_mv (v := .bool _) rfl) ?_
      refine spad (t := 102) rfl (fun hg6 => ?_) (fun hg6 => ?_)
      ·refine tkn (i := 4) rfl (by kernel_rfl) rfl H rfl ?_
       refine tkn (i := 5) rfl (by kernel_rfl) rfl H rfl ?_
       refine tkn (i := 6) rfl (by kernel_rfl) rfl H rfl ?_
       refine tkn (i := 7) rfl (by kernel_rfl) rfl H rfl ?_
       refine tkn (i := 8) rfl (by kernel_rfl) rfl H rfl ?_
       refine tk (i := 9) rfl (by kernel_rfl) rfl H (fun w' H => r_pkT (v := .bool _) rfl rfl) ?_
       refine tk (i := 10) rfl (by kernel_rfl) rfl H (fun w' H => r_mv (v := .bool _) rfl) ?_
       refine tkn (i := 11) rfl (by kernel_rfl) rfl H rfl ?_
       refine tkn (i := 12) rfl (by kernel_rfl) rfl H rfl ?_
       refine tkn (i := 13) rfl (by kernel_rfl) rfl H rfl ?_
       refine tkn (i := 14) rfl (by kernel_rfl) rfl H rfl ?_
       refine tkn (i := 15) rfl (by kernel_rfl) rfl H rfl ?_
       refine tk (i := 16) rfl (by kernel_rfl) rfl H (fun w' H => r_pkT (v := .bool _) rfl rfl) ?_
       refine tk (i := 17) rfl (by kernel_rfl) rfl H (fun w' H => r_mv (v := .bool _) rfl) ?_
       refine tkn (i := 18) rfl (by kernel_rfl) rfl H rfl ?_
       refine tkn (i := 19) rfl (by kernel_rfl) rfl H rfl ?_
       refine tkn (i := 20) rfl (by kernel_rfl) rfl H rfl ?_
       refine tk (i := 21) rfl (by kernel_rfl) rfl H (fun w' H => r_pkT (v := .bool _) rfl rfl) ?_
       refine tk (i := 22) rfl (by kernel_rfl) rfl H (fun w' H => r_mv (v := .bool _) rfl) ?_
       refine tkn (i := 23) rfl (by kernel_rfl) rfl H rfl ?_
       refine tkn (i := 24) rfl (by kernel_rfl) rfl H rfl ?_
       refine tkn (i := 25) rfl (by kernel_rfl) rfl H rfl ?_
       refine tk (i := 26) rfl (by kernel_rfl) rfl H (fun w' H => r_pkT (v := .bool _) rfl rfl) ?_
       refine da (by kernel_rfl) ?_
       refine then_n ?_
       refine cbT rfl rfl ?_
       refine sq ?_
       refine rg ?_
       refine asg (v := .bool _) rfl rfl ?_
       refine nl ?_
       refine then_n ?_
       refine rt ?_
       refine then_r ?_
       refine in_r ?_
       refine in_r ?_
       refine loop_r ?_
       refine in_r ?_
       refine then_r ?_
       refine fin_r ?_
       exact ⟨_, rfl, H.fr⟩
      ·refine tkg (i := 4) rfl (by kernel_rfl) rfl H rfl (fun w' H => r_mv (v := .string _) rfl) ?_
       refine tkg (i := 5) rfl (by kernel_rfl) rfl H rfl (fun w' H => r_ixS rfl rfl Tryd.underlying9 (by first | omega | (constructor <;> simp <;> omega))) ?_
       refine tkg (i := 6) rfl (by kernel_rfl) rfl H rfl (fun w' H => r_fa rfl fo85_0) ?_
       refine tkg (i := 7) rfl (by kernel_rfl) rfl H rfl (fun w' H => r_ld H rfl sc5 rfl) ?_
       refine tkg (i := 8) rfl (by kernel_rfl) rfl H rfl (fun w' H => r_lss rfl rfl) ?_
       refine tk (i := 9) rfl (by kernel_rfl) rfl H (fun w' H => r_pkF (v := .bool _) rfl rfl) ?_
       refine tk (i := 10) rfl (by kernel_rfl) rfl H (fun w' H => r_mv (v := .bool _) rfl) ?_
       refine spad (t := 109) rfl (fun hg7 => ?_) (fun hg7 => ?_)
       ·refine tkn (i := 11) rfl (by kernel_rfl) rfl H rfl ?_
        refine tkn (i := 12) rfl (by kernel_rfl) rfl H rfl ?_
        refine tkn (i := 13) rfl (by kernel_rfl) rfl H rfl ?_
        refine tkn (i := 14) rfl (by kernel_rfl) rfl H rfl ?_
        refine tkn (i := 15) rfl (by kernel_rfl) rfl H rfl ?_
        refine tk (i := 16) rfl (by kernel_rfl) rfl H (fun w' H => r_pkT (v := .bool _) rfl rfl) ?_
        refine tk (i := 17) rfl (by kernel_rfl) rfl H (fun w' H => r_mv (v := .bool _) rfl) ?_
        refine tkn (i := 18) rfl (by kernel_rfl) rfl H rfl ?_
        refine tkn (i := 19) rfl (by kernel_rfl) rfl H rfl ?_
        refine tkn (i := 20) rfl (by kernel_rfl) rfl H rfl ?_
        refine tk (i := 21) rfl (by kernel_rfl) rfl H (fun w' H => r_pkT (v := .bool _) rfl rfl) ?_
        refine tk (i := 22) rfl (by kernel_rfl) rfl H (fun w' H => r_mv (v := .bool _) rfl) ?_
        refine tkn (i := 23) rfl (by kernel_rfl) rfl H rfl ?_
        refine tkn (i := 24) rfl (by kernel_rfl) rfl H rfl ?_
        refine tkn (i := 25) rfl (by kernel_rfl) rfl H rfl ?_
        refine tk (i := 26) rfl (by kernel_rfl) rfl H (fun w' H => r_pkT (v := .bool _) rfl rfl) ?_
        refine da (by kernel_rfl) ?_
        refine then_n ?_
        refine cbT rfl rfl ?_
        refine sq ?_
        refine rg ?_
        refine asg (v := .bool _) rfl rfl ?_
        refine nl ?_
        refine then_n ?_
        refine rt ?_
        refine then_r ?_
        refine in_r ?_
        refine in_r ?_
        refine loop_r ?_
        refine in_r ?_
        refine then_r ?_
        refine fin_r ?_
        exact ⟨_, rfl, H.fr⟩
       ·refine tkg (i := 11) rfl (by kernel_rfl) rfl H rfl (fun w' H => r_fa rfl fo85_1) ?_
        refine tkg (i := 12) rfl (by kernel_rfl) rfl H rfl (fun w' H => r_ld H rfl sc5 rfl) ?_
        refine tkg (i := 13) rfl (by kernel_rfl) rfl H rfl (fun w' H => r_mv (v := .string _) rfl) ?_
        refine tkg (i := 14) rfl (by kernel_rfl) rfl H rfl (fun w' H => r_ixS rfl rfl Tryd.underlying9 (by first | omega | (constructor <;> simp <;> omega))) ?_
        refine tkg (i := 15) rfl (by kernel_rfl) rfl H rfl (fun w' H => r_lss rfl rfl) ?_
        refine tk (i := 16) rfl (by kernel_rfl) rfl H (fun w' H => r_pkF (v := .bool _) rfl rfl) ?_
        refine tk (i := 17) rfl (by kernel_rfl) rfl H (fun w' H => r_mv (v := .bool _) rfl) ?_
        refine spad (t := 116) rfl (fun hg8 => ?_) (fun hg8 => ?_)
        ·refine tkn (i := 18) rfl (by kernel_rfl) rfl H rfl ?_
         refine tkn (i := 19) rfl (by kernel_rfl) rfl H rfl ?_
         refine tkn (i := 20) rfl (by kernel_rfl) rfl H rfl ?_
         refine tk (i := 21) rfl (by kernel_rfl) rfl H (fun w' H => r_pkT (v := .bool _) rfl rfl) ?_
         refine tk (i := 22) rfl (by kernel_rfl) rfl H (fun w' H => r_mv (v := .bool _) rfl) ?_
         refine tkn (i := 23) rfl (by kernel_rfl) rfl H rfl ?_
         refine tkn (i := 24) rfl (by kernel_rfl) rfl H rfl ?_
         refine tkn (i := 25) rfl (by kernel_rfl) rfl H rfl ?_
         refine tk (i := 26) rfl (by kernel_rfl) rfl H (fun w' H => r_pkT (v := .bool _) rfl rfl) ?_
         refine da (by kernel_rfl) ?_
         refine then_n ?_
         refine cbT rfl rfl ?_
         refine sq ?_
         refine rg ?_
         refine asg (v := .bool _) rfl rfl ?_
         refine nl ?_
         refine then_n ?_
         refine rt ?_
         refine then_r ?_
         refine in_r ?_
         refine in_r ?_
         refine loop_r ?_
         refine in_r ?_
         refine then_r ?_
         refine fin_r ?_
         exact ⟨_, rfl, H.fr⟩
        ·refine tkg (i := 18) rfl (by kernel_rfl) rfl H rfl (fun w' H => r_mv (v := .string _) rfl) ?_
         refine tkg (i := 19) rfl (by kernel_rfl) rfl H rfl (fun w' H => r_ixS rfl rfl Tryd.underlying9 (by first | omega | (constructor <;> simp <;> omega))) ?_
         refine tkg (i := 20) rfl (by kernel_rfl) rfl H rfl (fun w' H => r_lss rfl rfl) ?_
         refine tk (i := 21) rfl (by kernel_rfl) rfl H (fun w' H => r_pkF (v := .bool _) rfl rfl) ?_
         refine tk (i := 22) rfl (by kernel_rfl) rfl H (fun w' H => r_mv (v := .bool _) rfl) ?_
         refine spad (t := 121) rfl (fun hg9 => ?_) (fun hg9 => ?_)
         ·refine tkn (i := 23) rfl (by kernel_rfl) rfl H rfl ?_
          refine tkn (i := 24) rfl (by kernel_rfl) rfl H rfl ?_
          refine tkn (i := 25) rfl (by kernel_rfl) rfl H rfl ?_
          refine tk (i := 26) rfl (by kernel_rfl) rfl H (fun w' H => r_pkT (v := .bool _) rfl rfl) ?_
          refine da (by kernel_rfl) ?_
          refine then_n ?_
          refine cbT rfl rfl ?_
          refine sq ?_
          refine rg ?_
          refine asg (v := .bool _) rfl rfl ?_
          refine nl ?_
          refine then_n ?_
          refine rt ?_
          refine then_r ?_
          refine in_r ?_
          refine in_r ?_
          refine loop_r ?_
          refine in_r ?_
          refine then_r ?_
          refine fin_r ?_
          exact ⟨_, rfl, H.fr⟩
         ·refine tkg (i := 23) rfl (by kernel_rfl) rfl H rfl (fun w' H => r_mv (v := .string _) rfl) ?_
          refine tkg (i := 24) rfl (by kernel_rfl) rfl H rfl (fun w' H => r_ixS rfl rfl Tryd.underlying9 (by first | omega | (constructor <;> simp <;> omega))) ?_
          refine tkg (i := 25) rfl (by kernel_rfl) rfl H rfl (fun w' H => r_lss rfl rfl) ?_
          refine tk (i := 26) rfl (by kernel_rfl) rfl H (fun w' H => r_pkF (v := .bool _) rfl rfl) ?_
          refine da (by kernel_rfl) ?_
          refine then_n ?_
          refine cd rfl (fun hc9 => ?_) (fun hc9 => ?_)
          ·refine sq ?_
           refine rg ?_
           refine asg (v := .bool _) rfl rfl ?_
           refine nl ?_
           refine then_n ?_
           refine rt ?_
           refine then_r ?_
           refine in_r ?_
           refine in_r ?_
           refine loop_r ?_
           refine in_r ?_
           refine then_r ?_
           refine fin_r ?_
           exact ⟨_, rfl, H.fr⟩
          ·refine sk ?_
           refine then_n ?_
           refine rg ?_
           refine mv (v := .string _) rfl rfl ?_
           refine slTl rfl rfl Tryd.underlying9 (by first | trivial | omega | (simp; omega)) rfl ?_
           refine asg (v := .string _) rfl rfl ?_
           refine nl ?_
           refine in_n ?_
           refine in_n ?_
           refine loop_n ?_
           exact ⟨List.drop (Int.toNat 3) l, (by (try dsimp only); simp <;> omega), ⟨by simp <;> omega, H.subX⟩, (fCX (fN _)), agX⟩
     ·refine sq ?_
      refine rg ?_
      refine eql rfl rfl rfl ?_
      refine asg (v := .bool _) rfl rfl ?_
      refine nl ?_
      refine then_n ?_
      refine cd rfl (fun hc10 => ?_) (fun hc10 => ?_)
      ·refine sq ?_
       refine sq ?_
       refine dr (by kernel_rfl) ?_
       have H := H.drew
       refine holdH H [] ?_
       refine tk (i := 0) rfl (by kernel_rfl) rfl H (fun w' H => r_mv (v := .string _) rfl) ?_
       refine tk (i := 1) rfl (by kernel_rfl) rfl H (fun w' H => r_lnT rfl Tryd.underlying9) ?_
       refine tk (i := 2) rfl (by kernel_rfl) rfl H (fun w' H => r_lss rfl rfl) ?_
       refine tk (i := 3) rfl (by kernel_rfl) rfl H (fun w' H => r_mv (v := .bool _) rfl) ?_
       refine spad (t := 133) rfl (fun hg10 => ?_) (fun hg10 => ?_)
       ·refine tkn (i := 4) rfl (by kernel_rfl) rfl H rfl ?_
        refine tkn (i := 5) rfl (by kernel_rfl) rfl H rfl ?_
        refine tkn (i := 6) rfl (by kernel_rfl) rfl H rfl ?_
        refine tkn (i := 7) rfl (by kernel_rfl) rfl H rfl ?_
        refine tkn (i := 8) rfl (by kernel_rfl) rfl H rfl ?_
        refine tk (i := 9) rfl (by kernel_rfl) rfl H (fun w' H => r_pkT (v := .bool _) rfl rfl) ?_
        refine tk (i := 10) rfl (by kernel_rfl) rfl H (fun w' H => r_mv (v := .bool _) rfl) ?_
        refine tkn (i := 11) rfl (by kernel_rfl) rfl H rfl ?_
        refine tkn (i := 12) rfl (by kernel_rfl) rfl H rfl ?_
        refine tkn (i := 13) rfl (by kernel_rfl) rfl H rfl ?_
        refine tkn (i := 14) rfl (by kernel_rfl) rfl H rfl ?_
        refine tkn (i := 15) rfl (by kernel_rfl) rfl H rfl ?_
        refine tk (i := 16) rfl (by kernel_rfl) rfl H (fun w' H => r_pkT (v := .bool _) rfl rfl) ?_
        refine tk (i := 17) rfl (by kernel_rfl) rfl H (fun w' H => r_mv (v := .bool _) rfl) ?_
        refine tkn (i := 18) rfl (by kernel_rfl) rfl H rfl ?_
        refine tkn (i := 19) rfl (by kernel_rfl) rfl H rfl ?_
        refine tkn (i := 20) rfl (by kernel_rfl) rfl H rfl ?_
        refine tk (i := 21) rfl (by kernel_rfl) rfl H (fun w' H => r_pkT (v := .bool _) rfl rfl) ?_
        refine tk (i := 22) rfl (by kernel_rfl) rfl H (fun w' H => r_mv (v := .bool _) rfl) ?_
        refine tkn (i := 23) rfl (by kernel_rfl) rfl H rfl ?_
        refine tkn (i := 24) rfl (by kernel_rfl) rfl H rfl ?_
        refine tkn (i := 25) rfl (by kernel_rfl) rfl H rfl ?_
        refine tk (i := 26) rfl (by kernel_rfl) rfl H (fun w' H => r_pkT (v := .bool _) rfl rfl) ?_
        refine tk (i := 27) rfl (by kernel_rfl) rfl H (fun w' H => r_mv (v := .bool _) rfl) ?_
        refine tkn (i := 28) rfl (by kernel_rfl) rfl H rfl ?_
        refine tkn (i := 29) rfl (by kernel_rfl) rfl H rfl ?_
        refine tkn (i := 30) rfl (by kernel_rfl) rfl H rfl ?_
        refine tk (i := 31) rfl (by kernel_rfl) rfl H (fun w' H => r_pkT (v := .bool _) rfl rfl) ?_
        refine tk (i := 32) rfl (by kernel_rfl) rfl H (fun w' H => r_mv (v := .bool _) rfl) ?_
        refine tkn (i := 33) rfl (by kernel_rfl) rfl H rfl ?_
        refine tkn (i := 34) rfl (by kernel_rfl) rfl H rfl ?_
        refine tkn (i := 35) rfl (by kernel_rfl) rfl H rfl ?_
        refine tk (i := 36) rfl (by kernel_rfl) rfl H (fun w' H => r_pkT (v := .bool _) rfl rfl) ?_
        refine da (by kernel_rfl) ?_
        refine then_n ?_
        refine cbT rfl rfl ?_
        refine sq ?_
        refine rg ?_
        refine asg (v := .bool _) rfl rfl ?_
        refine nl ?_
        refine then_n ?_
        refine rt ?_
        refine then_r ?_
        refine in_r ?_
        refine in_r ?_
        refine loop_r ?_
        refine in_r ?_
        refine then_r ?_
        refine fin_r ?_
        exact ⟨_, rfl, H.fr⟩
       ·refine tkg (i := 4) rfl (by kernel_rfl) rfl H rfl (fun w' H => r_mv (v := .string _) rfl) ?_
        refine tkg (i := 5) rfl (by kernel_rfl) rfl H rfl (fun w' H => r_ixS rfl rfl Tryd.underlying9 (by first | omega | (constructor <;> simp <;> omega))) ?_
        refine tkg (i := 6) rfl (by kernel_rfl) rfl H rfl (fun w' H => r_fa rfl fo85_0) ?_
        refine tkg (i := 7) rfl (by kernel_rfl) rfl H rfl (fun w' H => r_ld H rfl sc5 rfl) ?_
        refine tkg (i := 8) rfl (by kernel_rfl) rfl H rfl (fun w' H => r_lss rfl rfl) ?_
        refine tk (i := 9) rfl (by kernel_rfl) rfl H (fun w' H => r_pkF (v := .bool _) rfl rfl) ?_
        refine tk (i := 10) rfl (by kernel_rfl) rfl H (fun w' H => r_mv (v := .bool _) rfl) ?_
        refine spad (t := 140) rfl (fun hg11 => ?_) (fun hg11 => ?_)
        ·refine tkn (i := 11) rfl (by kernel_rfl) rfl H rfl ?_
         refine tkn (i := 12) rfl (by kernel_rfl) rfl H rfl ?_
         refine tkn (i := 13) rfl (by kernel_rfl) rfl H rfl ?_
         refine tkn (i := 14) rfl (by kernel_rfl) rfl H rfl ?_
         refine tkn (i := 15) rfl (by kernel_rfl) rfl H rfl ?_
         refine tk (i := 16) rfl (by kernel_rfl) rfl H (fun w' H => r_pkT (v := .bool _) rfl rfl) ?_
         refine tk (i := 17) rfl (by kernel_rfl) rfl H (fun w' H => r_mv (v := .bool _) rfl) ?_
         refine tkn (i := 18) rfl (by kernel_rfl) rfl H rfl ?_
         refine tkn (i := 19) rfl (by kernel_rfl) rfl H rfl ?_
         refine tkn (i := 20) rfl (by kernel_rfl) rfl H rfl ?_
         refine tk (i := 21) rfl (by kernel_rfl) rfl H (fun w' H => r_pkT (v := .bool _) rfl rfl) ?_
         refine tk (i := 22) rfl (by kernel_rfl) rfl H (fun w' H => r_mv (v := .bool _) rfl) ?_
         refine tkn (i := 23) rfl (by kernel_rfl) rfl H rfl ?_
         refine tkn (i := 24) rfl (by kernel_rfl) rfl H rfl ?_
         refine tkn (i := 25) rfl (by kernel_rfl) rfl H rfl ?_
         refine tk (i := 26) rfl (by kernel_rfl) rfl H (fun w' H => r_pkT (v := .bool _) rfl rfl) ?_
         refine tk (i := 27) rfl (by kernel_rfl) rfl H (fun w' H => r_mv (v := .bool _) rfl) ?_
         refine tkn (i := 28) rfl (by kernel_rfl) rfl H rfl ?_
         refine tkn (i := 29) rfl (by kernel_rfl) rfl H rfl ?_
         refine tkn (i := 30) rfl (by kernel_rfl) rfl H rfl ?_
         refine tk (i := 31) rfl (by kernel_rfl) rfl H (fun w' H => r_pkT (v := .bool _) rfl rfl) ?_
         refine tk (i := 32) rfl (by kernel_rfl) rfl H (fun w' H => r_mv (v := .bool _) rfl) ?_
         refine tkn (i := 33) rfl (by kernel_rfl) rfl H rfl ?_
         refine tkn (i := 34) rfl (by kernel_rfl) rfl H rfl ?_
         refine tkn (i := 35) rfl (by kernel_rfl) rfl H rfl ?_
         refine tk (i := 36) rfl (by kernel_rfl) rfl H (fun w' H => r_pkT (v := .bool _) rfl rfl) ?_
         refine da (by kernel_rfl) ?_
         refine then_n ?_
         refine cbT rfl rfl ?_
         refine sq ?_
         refine rg ?_
         refine asg (v := .bool _) rfl rfl ?_
         refine nl ?_
         refine then_n ?_
         refine rt ?_
         refine then_r ?_
         refine in_r ?_
         refine in_r ?_
         refine loop_r ?_
         refine in_r ?_
         refine then_r ?_
         refine fin_r ?_
         exact ⟨_, rfl, H.fr⟩
        ·refine tkg (i := 11) rfl (by kernel_rfl) rfl H rfl (fun w' H => r_fa rfl fo85_1) ?_
         refine tkg (i := 12) rfl (by kernel_rfl) rfl H rfl (fun w' H => r_ld H rfl sc5 rfl) ?_
         refine tkg (i := 13) rfl (by kernel_rfl) rfl H rfl (fun w' H => r_mv (v := .string _) rfl) ?_
         refine tkg (i := 14) rfl (by kernel_rfl) rfl H rfl (fun w' H => r_ixS rfl rfl Tryd.underlying9 (by first | omega | (constructor <;> simp <;> omega))) ?_
         refine tkg (i := 15) rfl (by kernel_rfl) rfl H rfl (fun w' H => r_lss rfl rfl) ?_
         refine tk (i := 16) rfl (by kernel_rfl) rfl H (fun w' H => r_pkF (v := .bool _) rfl rfl) ?_
         refine tk (i := 17) rfl (by kernel_rfl) rfl H (fun w' H => r_mv (v := .bool _) rfl) ?_
         refine spad (t := 147) rfl (fun hg12 => ?_) (fun hg12 => ?_)
         ·refine tkn (i := 18) rfl (by kernel_rfl) rfl H rfl ?_
          refine tkn (i := 19) rfl (by kernel_rfl) rfl H rfl ?_
          refine tkn (i := 20) rfl (by kernel_rfl) rfl H rfl ?_
          refine tk (i := 21) rfl (by kernel_rfl) rfl H (fun w' H => r_pkT (v := .bool _) rfl rfl) ?_
          refine tk (i := 22) rfl (by kernel_rfl) rfl H (fun w' H => r_mv (v := .bool _) rfl) ?_
          refine tkn (i := 23) rfl (by kernel_rfl) rfl H rfl ?_
          refine tkn (i := 24) rfl (by kernel_rfl) rfl H rfl ?_
          refine tkn (i := 25) rfl (by kernel_rfl) rfl H rfl ?_
          refine tk (i := 26) rfl (by kernel_rfl) rfl H (fun w' H => r_pkT (v := .bool _) rfl rfl) ?_
          refine tk (i := 27) rfl (by kernel_rfl) rfl H (fun w' H => r_mv (v := .bool _) rfl) ?_
          refine tkn (i := 28) rfl (by kernel_rfl) rfl H rfl ?_
          refine tkn (i := 29) rfl (by kernel_rfl) rfl H rfl ?_
          refine tkn (i := 30) rfl (by kernel_rfl) rfl H rfl ?_
          refine tk (i := 31) rfl (by kernel_rfl) rfl H (fun w' H => r_pkT (v := .bool _) rfl rfl) ?_
          refine tk (i := 32) rfl (by kernel_rfl) rfl H (fun w' H => r_mv (v := .bool _) rfl) ?_
          refine tkn (i := 33) rfl (by kernel_rfl) rfl H rfl ?_
          refine tkn (i := 34) rfl (by kernel_rfl) rfl H rfl ?_
          refine tkn (i := 35) rfl (by kernel_rfl) rfl H rfl ?_
          refine tk (i := 36) rfl (by kernel_rfl) rfl H (fun w' H => r_pkT (v := .bool _) rfl rfl) ?_
          refine da (by kernel_rfl) ?_
          refine then_n ?_
          refine cbT rfl rfl ?_
          refine sq ?_
          refine rg ?_
          refine asg (v := .bool _) rfl rfl ?_
          refine nl ?_
          refine then_n ?_
          refine rt ?_
          refine then_r ?_
          refine in_r ?_
          refine in_r ?_
          refine loop_r ?_
          refine in_r ?_
          refine then_r ?_
          refine fin_r ?_
          exact ⟨_, rfl, H.fr⟩
         ·refine tkg (i := 18) rfl (by kernel_rfl) rfl H rfl (fun w' H => r_mv (v := .string _) rfl) ?_
          refine tkg (i := 19) rfl (by kernel_rfl) rfl H rfl (fun w' H => r_ixS rfl rfl Tryd.underlying9 (by first | omega | (constructor <;> simp <;> omega))) ?_
          refine tkg (i := 20) rfl (by kernel_rfl) rfl H rfl (fun w' H => r_lss rfl rfl) ?_
          refine tk (i := 21) rfl (by kernel_rfl) rfl H (fun w' H => r_pkF (v := .bool _) rfl rfl) ?_
          refine tk (i := 22) rfl (by kernel_rfl) rfl H (fun w' H => r_mv (v := .bool _) rfl) ?_
          refine spad (t := 152) rfl (fun hg13 => ?_) (fun hg13 => ?_)
          ·refine tkn (i := 23) rfl (by kernel_rfl) rfl H rfl ?_
           refine tkn (i := 24) rfl (by kernel_rfl) rfl H rfl ?_
           refine tkn (i := 25) rfl (by kernel_rfl) rfl H rfl ?_
           refine tk (i := 26) rfl (by kernel_rfl) rfl H (fun w' H => r_pkT (v := .bool _) rfl rfl) ?_
           refine tk (i := 27) rfl (by kernel_rfl) rfl H (fun w' H => r_mv (v := .bool _) rfl) ?_
           refine tkn (i := 28) rfl (by kernel_rfl) rfl H rfl ?_
           refine tkn (i := 29) rfl (by kernel_rfl) rfl H rfl ?_
           refine tkn (i := 30) rfl (by kernel_rfl) rfl H rfl ?_
           refine tk (i := 31) rfl (by kernel_rfl) rfl H (fun w' H => r_pkT (v := .bool _) rfl rfl) ?_
           refine tk (i := 32) rfl (by kernel_rfl) rfl H (fun w' H => r_mv (v := .bool _) rfl) ?_
           refine tkn (i := 33) rfl (by kernel_rfl) rfl H rfl ?_
           refine tkn (i := 34) rfl (by kernel_rfl) rfl H rfl ?_
           refine tkn (i := 35) rfl (by kernel_rfl) rfl H rfl ?_
           refine tk (i := 36) rfl (by kernel_rfl) rfl H (fun w' H => r_pkT (v := .bool _) rfl rfl) ?_
           refine da (by kernel_rfl) ?_
           refine then_n ?_
           refine cbT rfl rfl ?_
           refine sq ?_
           refine rg ?_
           refine asg (v := .bool _) rfl rfl ?_
           refine nl ?_
           refine then_n ?_
           refine rt ?_
           refine then_r ?_
           refine in_r ?_
           refine in_r ?_
           refine loop_r ?_
           refine in_r ?_
           refine then_r ?_
           refine fin_r ?_
           exact ⟨_, rfl, H.fr⟩
          ·refine tkg (i := 23) rfl (by kernel_rfl) rfl H rfl (fun w' H => r_mv (v := .string _) rfl) ?_
           refine tkg (i := 24) rfl (by kernel_rfl) rfl H rfl (fun w' H => r_ixS rfl rfl Tryd.underlying9 (by first | omega | (constructor <;> simp <;> omega))) ?_
           refine tkg (i := 25) rfl (by kernel_rfl) rfl H rfl (fun w' H => r_lss rfl rfl) ?_
           refine tk (i := 26) rfl (by kernel_rfl) rfl H (fun w' H => r_pkF (v := .bool _) rfl rfl) ?_
           refine tk (i := 27) rfl (by kernel_rfl) rfl H (fun w' H => r_mv (v := .bool _) rfl) ?_
           refine spad (t := 157) rfl (fun hg14 => ?_) (fun hg14 => ?_)
           ·refine tkn (i := 28) rfl (by kernel_rfl) rfl H rfl ?_
            refine tkn (i := 29) rfl (by kernel_rfl) rfl H rfl ?_
            refine tkn (i := 30) rfl (by kernel_rfl) rfl H rfl ?_
            refine tk (i := 31) rfl (by kernel_rfl) rfl H (fun w' H => r_pkT (v := .bool _) rfl rfl) ?_
            refine tk (i := 32) rfl (by kernel_rfl) rfl H (fun w' H => r_mv (v := .bool _) rfl) ?_
            refine tkn (i := 33) rfl (by kernel_rfl) rfl H rfl ?_
            refine tkn (i := 34) rfl (by kernel_rfl) rfl H rfl ?_
            refine tkn (i := 35) rfl (by kernel_rfl) rfl H rfl ?_
            refine tk (i := 36) rfl (by kernel_rfl) rfl H (fun w' H => r_pkT (v := .bool _) rfl rfl) ?_
            refine da (by kernel_rfl) ?_
            refine then_n ?_
            refine cbT rfl rfl ?_
            refine sq ?_
            refine rg ?_
            refine asg (v := .bool _) rfl rfl ?_
            refine nl ?_
            refine then_n ?_
            refine rt ?_
            refine then_r ?_
            refine in_r ?_
            refine in_r ?_
            refine loop_r ?_
            refine in_r ?_
            refine then_r ?_
            refine fin_r ?_
            exact ⟨_, rfl, H.fr⟩
           ·refine tkg (i := 28) rfl (by kernel_rfl) rfl H rfl (fun w' H => r_mv (v := .string _) rfl) ?_
            refine tkg (i := 29) rfl (by kernel_rfl) rfl H rfl (fun w' H => r_ixS rfl rfl Tryd.underlying9 (by first | omega | (constructor <;> simp <;> omega))) ?_
            refine tkg (i := 30) rfl (by kernel_rfl) rfl H rfl (fun w' H => r_lss rfl rfl) ?_
            refine tk (i := 31) rfl (by kernel_rfl) rfl H (fun w' H => r_pkF (v := .bool _) rfl rfl) ?_
            refine tk (i := 32) rfl (by kernel_rfl) rfl H (fun w' H => r_mv (v := .bool _) rfl) ?_
            refine spad (t := 162) rfl (fun hg15 => ?_) (fun hg15 => ?_)
            ·refine tkn (i := 33) rfl (by kernel_rfl) rfl H rfl ?_
             refine tkn (i := 34) rfl (by kernel_rfl) rfl H rfl ?_
             refine tkn (i := 35) rfl (by kernel_rfl) rfl H rfl ?_
             refine tk (i := 36) rfl (by kernel_rfl) rfl H (fun w' H => r_pkT (v := .bool _) rfl rfl) ?_
             refine da (by kernel_rfl) ?_
             refine then_n ?_
             refine cbT rfl rfl ?_
             refine sq ?_
             refine rg ?_
             refine asg (v := .bool _) rfl rfl ?_
             refine nl ?_
             refine then_n ?_
             refine rt ?_
             refine then_r ?_
             refine in_r ?_
             refine in_r ?_
             refine loop_r ?_
             refine in_r ?_
             refine then_r ?_
             refine fin_r ?_
             exact ⟨_, rfl, H.fr⟩
            ·refine tkg (i := 33) rfl (by kernel_rfl) rfl H rfl (fun w' H => r_mv (v := .string _) rfl) ?_
             refine tkg (i := 34) rfl (by kernel_rfl) rfl H rfl (fun w' H => r_ixS rfl rfl Tryd.underlying9 (by first | omega | (constructor <;> simp <;> omega))) ?_
             refine tkg (i := 35) rfl (by kernel_rfl) rfl H rfl (fun w' H => r_lss rfl rfl) ?_
             refine tk (i := 36) rfl (by kernel_rfl) rfl H (fun w' H => r_pkF (v := .bool _) rfl rfl) ?_
             refine da (by kernel_rfl) ?_
             refine then_n ?_
             refine cd rfl (fun hc11 => ?_) (fun hc11 => ?_)
             ·refine sq ?_
              refine rg ?_
              refine asg (v := .bool _) rfl rfl ?_
              refine nl ?_
              refine then_n ?_
              refine rt ?_
              refine then_r ?_
              refine in_r ?_
              refine in_r ?_
              refine loop_r ?_
              refine in_r ?_
              refine then_r ?_
              refine fin_r ?_
              exact ⟨_, rfl, H.fr⟩
             ·refine sk ?_
              refine then_n ?_
              refine rg ?_
              refine mv (v := .string _) rfl rfl ?_
              refine slTl rfl rfl Tryd.underlying9 (by first | trivial | omega | (simp; omega)) rfl ?_
              refine asg (v := .string _) rfl rfl ?_
              refine nl ?_
              refine in_n ?_
              refine in_n ?_
              refine loop_n ?_
              exact ⟨List.drop (Int.toNat 4) l, (by (try dsimp only); simp <;> omega), ⟨by simp <;> omega, H.subX⟩, (fCX (fN _)), agX⟩
      ·refine sq ?_
       refine rg ?_
       refine asg (v := .bool _) rfl rfl ?_
       refine nl ?_
       refine then_n ?_
       refine rt ?_
       refine in_r ?_
       refine in_r ?_
       refine loop_r ?_
       refine in_r ?_
       refine then_r ?_
       refine fin_r ?_
       exact ⟨_, rfl, H.fr⟩
  ·refine ex ?_
   refine then_e ?_
   refine loop_e ?_
   refine in_hit rfl ?_
   refine then_n ?_
   refine sq ?_
   refine rg ?_
   refine asg (v := .bool _) rfl rfl ?_
   refine nl ?_
   refine then_n ?_
   refine rt ?_
   refine fin_r ?_
   exact ⟨_, rfl, H.fr⟩
end Go.Proofs.YthcaejaaalkglaaDoor.X
/- A byte of a table that stands on a disk is spoilt. -/
namespace Go.Proofs.YthcaejaaalkglaaDoor.X
set_option linter.unusedVariables false
set_option linter.unusedSimpArgs false
open Go
theorem pcs_set_out {ds : List UInt8} {q p k : Nat} {c : UInt8} (h : q < p ∨ p + k ≤ q) : pcs (ds.set q c) p k = pcs ds p k := by
 refine List.ext_getElem? fun i => ?_
 simp only [pcs, List.getElem?_take, List.getElem?_drop]
 split
 ·rw [List.getElem?_set_ne (by omega)]
 ·rfl
theorem pcs_set_in {ds : List UInt8} {q p k : Nat} {c : UInt8} (h : p ≤ q) : pcs (ds.set q c) p k = (pcs ds p k).set (q - p) c := by
 unfold pcs
 rw [List.drop_set, if_neg (by omega), List.take_set]
theorem fld_set_out {ds : List UInt8} {q p k : Nat} {c : UInt8} (h : q < p ∨ p + k ≤ q) : fld (ds.set q c) p k = fld ds p k := by
 unfold fld; rw [pcs_set_out h]
theorem leV_inj : ∀ {a b : List UInt8}, a.length = b.length → leV a = leV b → a = b
 | [], [], _, _ => rfl
 | [], y :: s, h, _ => by simp at h
 | x :: r, [], h, _ => by simp at h
 | x :: r, y :: s, h, e => by
  have h1 : leV (x :: r) = (x.toNat : Int) + 256 * leV r := rfl
  have h2 : leV (y :: s) = (y.toNat : Int) + 256 * leV s := rfl
  have hx := x.toNat_lt
  have hy := y.toNat_lt
  rw [h1, h2] at e
  have e1 : x.toNat = y.toNat := by omega
  have e2 : leV r = leV s := by omega
  rw [UInt8.toNat_inj.1 e1, leV_inj (by simpa using h) e2]
theorem set_ne {l : List UInt8} {i : Nat} {c : UInt8} (hi : i < l.length) (hc : l[i]? ≠ some c) : l.set i c ≠ l := by
 intro e
 have := congrArg (fun m => m[i]?) e
 simp only [List.getElem?_set_self hi] at this
 exact hc this.symm
theorem pcs_at {ds : List UInt8} {p k i : Nat} (h : i < k) : (pcs ds p k)[i]? = ds[p + i]? := by
 simp [pcs, List.getElem?_take, List.getElem?_drop, h]
theorem zHdr_set_in {l : List UInt8} {i : Nat} {c : UInt8} (hl : l.length = 92) (h : 16 ≤ i ∧ i < 20) : zHdr (l.set i c) = zHdr l := by
 unfold zHdr pAt
 rw [List.take_set_of_le (by omega), List.drop_set, if_pos (by simp; omega)]
theorem zHdr_set_out {l : List UInt8} {i : Nat} {c : UInt8} (hl : l.length = 92) (hi : i < 92) (h : i < 16 ∨ 20 ≤ i) : zHdr (l.set i c) = (zHdr l).set i c ∧ (zHdr l)[i]? = l[i]? := by
 have e : zHdr l = l.take 16 ++ ([0, 0, 0, 0] ++ l.drop 20) := by unfold zHdr pAt; simp only [List.append_assoc, List.length_cons, List.length_nil]
 have e2 : zHdr (l.set i c) = (l.set i c).take 16 ++ ([0, 0, 0, 0] ++ (l.set i c).drop 20) := by unfold zHdr pAt; simp only [List.append_assoc, List.length_cons, List.length_nil]
 rw [e, e2]
 rcases h with h | h
 ·refine ⟨?_, ?_⟩
  ·rw [List.take_set, List.drop_set, if_pos (by omega), List.set_append_left _ _ (by simp; omega)]
  ·rw [List.getElem?_append_left (by simp; omega), List.getElem?_take, if_pos h]
 ·refine ⟨?_, ?_⟩
  ·rw [List.take_set_of_le (by omega), List.drop_set, if_neg (by omega), List.set_append_right _ _ (by simp; omega), List.set_append_right _ _ (by simp; omega)]
   congr 3
   simp only [List.length_take, List.length_cons, List.length_nil]; omega
  ·rw [List.getElem?_append_right (by simp; omega), List.getElem?_append_right (by simp; omega), List.getElem?_drop]
   congr 1
   simp only [List.length_take, List.length_cons, List.length_nil]; omega
theorem hdr_spoil {ds : List UInt8} {A q : Nat} {c : UInt8} (hA : A + 92 ≤ ds.length) (hq : A ≤ q ∧ q < A + 92) (hc : ds[q]? ≠ some c) (hk : crcOk ds A = true) : crcOk (ds.set q c) A = false := by
 have hl : (pcs ds A 92).length = 92 := pcs_len hA
 have hk' : crc32 (zHdr (pcs ds A 92)) = fld ds (A + 16) 4 := of_decide_eq_true hk
 have hat : (pcs ds A 92)[q - A]? ≠ some c := by rw [pcs_at (by omega), show A + (q - A) = q by omega]; exact hc
 unfold crcOk
 rw [pcs_set_in hq.1]
 refine decide_eq_false fun e => ?_
 by_cases h : 16 ≤ q - A ∧ q - A < 20
 ·rw [zHdr_set_in hl h, hk'] at e
  unfold fld at e
  have h4 : (pcs ds (A + 16) 4).length = 4 := pcs_len (by omega)
  have e2 := leV_inj (by rw [h4, pcs_set_in (by omega), List.length_set, h4]) e
  rw [pcs_set_in (by omega)] at e2
  refine set_ne (i := q - (A + 16)) (c := c) (by rw [h4]; omega) ?_ e2.symm
  rw [pcs_at (by omega), show A + 16 + (q - (A + 16)) = q by omega]; exact hc
 ·obtain ⟨z1, z2⟩ := zHdr_set_out (c := c) hl (i := q - A) (by omega) (by omega)
  rw [z1, fld_set_out (by omega), ← hk'] at e
  exact crc32_set (by rw [zHdr_len hl]; omega) (by rw [z2]; exact hat) e
theorem arr_spoil {ds : List UInt8} {R k q : Nat} {c : UInt8} (hR : R + k ≤ ds.length) (hq : R ≤ q ∧ q < R + k) (hc : ds[q]? ≠ some c) : crc32 (pcs (ds.set q c) R k) ≠ crc32 (pcs ds R k) := by
 rw [pcs_set_in hq.1]
 exact crc32_set (by rw [pcs_len hR]; omega) (by rw [pcs_at (by omega), show R + (q - R) = q by omega]; exact hc)
theorem hdr_out {ds : List UInt8} {A q : Nat} {c : UInt8} (h : q < A ∨ A + 92 ≤ q) : hdrGood (ds.set q c) A = hdrGood ds A ∧ sigOk (ds.set q c) A = sigOk ds A ∧ crcOk (ds.set q c) A = crcOk ds A := by
 have h1 : sigOk (ds.set q c) A = sigOk ds A := by unfold sigOk; rw [pcs_set_out (by omega)]
 have h2 : crcOk (ds.set q c) A = crcOk ds A := by unfold crcOk; rw [pcs_set_out (by omega), fld_set_out (by omega)]
 refine ⟨?_, h1, h2⟩
 unfold hdrGood
 rw [h1, h2, pcs_set_out (by omega), pcs_set_out (by omega), pcs_set_out (by omega)]
theorem fits_out {ds : List UInt8} {A q : Nat} {c : UInt8} (h : q < A ∨ A + 92 ≤ q) : fitsB (ds.set q c) 512 A = fitsB ds 512 A := by
 obtain ⟨h1, h2, h3⟩ := hdr_out (ds := ds) (c := c) h
 unfold fitsB
 rw [h2, h3, fld_set_out (by omega), fld_set_out (by omega), fld_set_out (by omega)]
theorem spoil {ds : List UInt8} {A R q : Nat} {c : UInt8} (hA : A + 92 ≤ ds.length) (hR : R + 16384 ≤ ds.length) (hd : A + 92 ≤ R ∨ R + 16384 ≤ A) (hq : (A ≤ q ∧ q < A + 92) ∨ (R ≤ q ∧ q < R + 16384)) (hc : ds[q]? ≠ some c) (hk : crcOk ds A = true) (hs : fld ds (A + 88) 4 = crc32 (pcs ds R 16384)) :
  (hdrGood (ds.set q c) A = false ∨ fld (ds.set q c) (A + 88) 4 ≠ crc32 (pcs (ds.set q c) R 16384)) ∧
  (hdrGood (ds.set q c) A = true → hdrGood ds A = true ∧ (∀ p k, A ≤ p → p + k ≤ A + 92 → fld (ds.set q c) p k = fld ds p k)) ∧
  (fitsB ds 512 A = true → fitsB (ds.set q c) 512 A = true) := by
 rcases hq with hq | hq
 ·have h1 := hdr_spoil hA hq hc hk
  have h2 : hdrGood (ds.set q c) A = false := by unfold hdrGood; rw [h1, Bool.and_false]
  refine ⟨.inl h2, fun h => by rw [h2] at h; exact Bool.noConfusion h, fun _ => ?_⟩
  unfold fitsB; rw [h1]; simp
 ·have ho : q < A ∨ A + 92 ≤ q := by omega
  refine ⟨.inr ?_, fun h => ⟨by rw [← (hdr_out ho).1]; exact h, fun p k h1 h2 => fld_set_out (by omega)⟩, fun h => by rw [fits_out ho]; exact h⟩
  rw [fld_set_out (by omega), hs]
  exact fun e => arr_spoil hR hq hc e.symm
end Go.Proofs.YthcaejaaalkglaaDoor.X
/- The conditions under which a table may stand on a disk. -/
namespace Go.Proofs.YthcaejaaalkglaaDoor.X
set_option linter.unusedVariables false
open Go
theorem pair_of_next {ps : List GP} (h : ∀ j q r, ps[j]? = some q → ps[j + 1]? = some r → q.ix < r.ix) : ps.Pairwise (fun x y => x.ix < y.ix) := by
 have key : ∀ (k j : Nat) (q r : GP), ps[j]? = some q → ps[j + 1 + k]? = some r → q.ix < r.ix := by
  intro k
  induction k with
  | zero => intro j q r h1 h2; exact h j q r h1 h2
  | succ k ih =>
   intro j q r h1 h2
   have hl := (List.getElem?_eq_some_iff.1 h2).1
   obtain ⟨x, hx⟩ : ∃ x, ps[j + 1 + k]? = some x := ⟨_, List.getElem?_eq_getElem (by omega)⟩
   exact Int.lt_trans (ih j q x h1 hx) (h _ x r hx h2)
 rw [List.pairwise_iff_getElem]
 intro i j hi hj hij
 exact key (j - (i + 1)) i _ _ (List.getElem?_eq_getElem hi) (by rw [show i + 1 + (j - (i + 1)) = j by omega]; exact List.getElem?_eq_getElem hj)
def ordTo (ps : List GP) (i : Nat) : Prop := ∀ j q r, j + 1 < i → ps[j]? = some q → ps[j + 1]? = some r → q.ix < r.ix
theorem ordTo_next {ps : List GP} {i : Nat} {p : GP} (h : ordTo ps i) (hp : ps[i]? = some p) (hl : ∀ q, 0 < i → ps[i - 1]? = some q → q.ix < p.ix) : ordTo ps (i + 1) := fun j q r hj h1 h2 => by
 rcases Nat.lt_or_ge (j + 1) i with h3 | h3
 ·exact h j q r h3 h1 h2
 ·obtain rfl : i = j + 1 := by omega
  rw [hp] at h2; cases h2
  exact hl q (by omega) (by simpa using h1)
theorem ordTo_all {ps : List GP} {i : Nat} (hl : ps.length ≤ i) (h : ordTo ps i) : ps.Pairwise (fun x y => x.ix < y.ix) := pair_of_next fun j q r h1 h2 => h j q r (by have := (List.getElem?_eq_some_iff.1 h2).1; omega) h1 h2
theorem okN_nil : okN [] := fun c hc => by rw [runes_nil] at hc; exact absurd hc (by simp)
theorem okN_step {bs : List UInt8} {pos : Nat} (h : pos < bs.length) (h0 : (rune1 (bs.drop pos)).1 ≠ 0) (h1 : (rune1 (bs.drop pos)).1 ≠ 65533) (hk : okN (bs.drop (pos + (rune1 (bs.drop pos)).2))) : okN (bs.drop pos) := fun c hc => by
 rw [runes_at h] at hc
 rcases List.mem_cons.1 hc with rfl | hc
 ·exact ⟨h0, h1⟩
 ·exact hk c hc
theorem okN_end {bs : List UInt8} {pos : Nat} (h : ¬ pos < bs.length) (hk : okN (bs.drop pos) → okN bs) : okN bs := hk (by rw [List.drop_of_length_le (by omega)]; exact okN_nil)
end Go.Proofs.YthcaejaaalkglaaDoor.X
