/- Laws and walks on the road to the statement: P50, P51, P52, GatLaw, GatWr, P53, P54, TypeMiss, P55, P56, P57, ApK, Rebase, GptRep, P58, P59. -/
import Derived.Test.YthcaejaaalkglaaGreatDoorM9
import Derived.Lib.AppendZerosOnto
/- Walks of functions, printed by a program of this claim. -/
namespace Go.Proofs.YthcaejaaalkglaaGreatDoor.X
set_option linter.unusedVariables false
set_option linter.unusedSimpArgs false
open Go Go.RowKit
namespace PF
theorem ca58 : callable Tryz.prog 58 = true := by kernel_rfl
theorem ca59 : callable Tryz.prog 59 = true := by kernel_rfl
theorem ca60 : callable Tryz.prog 60 = true := by kernel_rfl
end PF
open PF
set_option maxRecDepth 100000 in
set_option maxHeartbeats 1000000 in
theorem c_le (w : World) (b o n c : Nat) (T : TypeId) (fr : Nat × Nat) (cur : List UInt8) (hb : w.heap[b]? = some (.cells (Bs cur).toArray T fr)) (ho : o + n ≤ cur.length) (hn : n ≤ 8) : Calls Tryz.prog 58 #[.slice (some ⟨b, o, none⟩) n c] w (Ret fun v w' => v = .int .u64 (leV ((cur.drop o).take n)) ∧ Fr [] w w') := by
 refine enter (fun ρ => ρ 2) Tryz.func58 rfl rfl rfl (res1 rfl) ?_
 have H := SH.ro1 hb
 refine sq ?_
 refine rg ?_
 refine asg (v := .int .u64 _) rfl rfl ?_
 refine nl ?_
 refine then_n ?_
 refine sq ?_
 refine rg ?_
 refine asg (v := .int .u64 _) rfl rfl ?_
 refine nl ?_
 refine then_n ?_
 refine sq ?_
 refine sq ?_
 refine rg ?_
 refine mv (v := .slice _ _ _) rfl rfl ?_
 refine lnS rfl Tryz.underlying30 rfl ?_
 refine sub rfl rfl (by first | exact w_i64 (by omega) | exact w_i64 (rng_i64 _) | rfl) rfl ?_
 refine asg (v := .int .i64 _) rfl rfl ?_
 refine nl ?_
 refine then_n ?_
 refine bk ?_
 refine lpM (α := Nat × Int) [3, 4, 8, 9, 10, 11, 12, 13, 14, 15, 16, 17, 18, 19] (fun (i, y) => [(3, .int .u64 y), (4, .int .i64 ((i : Int) - 1))]) (fun (i, y) w' => i ≤ n ∧ y = leV (((cur.drop o).take n).drop i) ∧ SH w [] w' [⟨b, .cells (Bs cur).toArray T fr, false⟩]) (fun (i, y) => i) (n, 0) ?_ (fCX (fCX (fN _))) ?_
 ·exact ⟨by omega, by rw [List.drop_of_length_le (by simp; omega)]; rfl, H⟩
 ·rintro ⟨i, y⟩ ρx w1 ⟨hi, hy, H⟩
  refine sq ?_
  refine sq ?_
  refine rg ?_
  refine mv (v := .int .i64 _) rfl rfl ?_
  refine geq rfl rfl rfl ?_
  refine nl ?_
  refine then_n ?_
  refine cd rfl (fun hc1 => ?_) (fun hc1 => ?_)
  ·have hl7 : (((cur.drop o).take n).drop i).length ≤ 7 := by simp; omega
   have hyr := leV_le7 hl7
   rw [← hy] at hyr
   have hnl : ((cur.drop o).take n).length = n := by simp; omega
   have hst := leV_at (l := (cur.drop o).take n) (i := i - 1) (by omega)
   rw [show i - 1 + 1 = i by omega, ← hy] at hst
   have hgd : ((cur.drop o).take n).getD (i - 1) 0 = cur.getD (o + ((i : Int) - 1).toNat * 1) 0 := by
    rw [show o + ((i : Int) - 1).toNat * 1 = o + (i - 1) by omega]
    simp [List.getD_eq_getElem?_getD, List.getElem?_take, show i - 1 < n by omega]
   rw [hgd] at hst
   refine sk ?_
   refine then_n ?_
   refine sq ?_
   refine bk ?_
   refine rg ?_
   refine mv (v := .int .u64 _) rfl rfl ?_
   refine shlK (s := 8) (p := 256) rfl rfl (by decide) (by decide) (by first | exact w_u64 (by omega) | exact w_u64 (rng_u64 _) | exact m_u64 _) rfl ?_
   refine mv (v := .slice _ _ _) rfl rfl ?_
   refine mv (v := .int .i64 _) rfl rfl ?_
   refine ia rfl rfl Tryz.underlying30 sz5_1 (by omega) rfl ?_
   (refine ldb H rfl sc5 (by omega) rfl ?_; intro hu1)
   refine cvi rfl rfl Tryz.underlying28 (by first | exact w_u64 (by omega) | exact w_u64 (rng_u64 _) | exact m_u64 _) rfl ?_
   refine bor (c := leV (((cur.drop o).take n).drop (i - 1))) rfl rfl ((or64 hyr (UInt8.toNat_lt _)).trans hst.symm) rfl ?_
   refine asg (v := .int .u64 _) rfl rfl ?_
   refine nl ?_
   refine in_n ?_
   refine then_n ?_
   refine rg ?_
   refine mv (v := .int .i64 _) rfl rfl ?_
   refine sub rfl rfl (by first | exact w_i64 (by omega) | exact w_i64 (rng_i64 _) | rfl) rfl ?_
   refine asg (v := .int .i64 _) rfl rfl ?_
   refine nl ?_
   refine loop_n ?_
   exact ⟨(i - 1, leV (((cur.drop o).take n).drop (i - 1))), (by (try dsimp only); omega), ⟨by omega, rfl, H⟩, (fCX (fCX (fN _))), agX⟩
  ·refine ex ?_
   refine then_e ?_
   refine loop_e ?_
   refine in_hit rfl ?_
   refine then_n ?_
   refine sq ?_
   refine rg ?_
   refine mv (v := .int .u64 _) rfl rfl ?_
   refine asg (v := .int .u64 _) rfl rfl ?_
   refine nl ?_
   refine then_n ?_
   refine rt ?_
   refine fin_r ?_
   obtain rfl : i = 0 := by omega
   exact ⟨congrArg (Value.int .u64) hy, H.fr⟩
set_option maxRecDepth 100000 in
set_option maxHeartbeats 8000000 in
theorem c_gptAt (w : World) (q n c a : Nat) (T : TypeId) (fr : Nat × Nat) (bs : List UInt8) (hb : w.heap[q]? = some (.cells (Bs bs).toArray T fr)) (hn : 80 ≤ n ∧ n ≤ 1000000) (hl : n * 512 ≤ bs.length) (hc : n * 512 ≤ c) (ha : a < n) : Calls Tryz.prog 34 #[.slice (some ⟨q, 0, none⟩) (n * 512) c, .int .i64 512, .int .u64 (a : Int)] w (Ret fun v w' => ∃ v1, v = .tuple #[v1, .bool (gatB bs n a)] ∧ (gatB bs n a = true → ∃ k D cap, fld bs (a * 512 + 72) 8 = ((k : Nat) : Int) ∧ k * 512 + 16384 ≤ n * 512 ∧ v1 = .agg (gtCells D (usedP (pcs bs (k * 512) 16384) 128).length cap 512 (gT (pcs bs (a * 512 + 56) 16)) false false).toArray ∧ OR 54 8 w [] w' [] D (usedP (pcs bs (k * 512) 16384) 128).length cap ((usedP (pcs bs (k * 512) 16384) 128).flatMap GP.cells)) ∧ (gatB bs n a = false → v1 = .agg (gtCells none 0 0 0 [] false false).toArray) ∧ Fr [] w w') := by
 refine enterR [.cell 6 24, .tmp 7] Tryz.func34 rfl rfl rfl rfl ?_
 have H := SH.ro1 hb
 have hA92 : a * 512 + 92 ≤ bs.length := by omega
 have hp92 : (pcs bs (a * 512) 92).length = 92 := pcs_len hA92
 have hz92 := zHdr_len hp92
 have hcr := crc32_rng (zHdr (pcs bs (a * 512) 92))
 refine sq ?_
 refine rg ?_
 refine al H ze24 rfl ?_
 clear H; intro b1 w1 hb1 H _
 refine asg (v := .bool _) rfl rfl ?_
 refine nl ?_
 refine then_n ?_
 refine sq ?_
 refine rg ?_
 refine mv (v := .int .i64 _) rfl rfl ?_
 refine cvi rfl rfl Tryz.underlying28 (by first | exact w_u64 (by omega) | exact w_u64 (rng_u64 _) | exact m_u64 _) rfl ?_
 refine asg (v := .int .u64 _) rfl rfl ?_
 refine nl ?_
 refine then_n ?_
 refine sq ?_
 refine rg ?_
 refine mv (v := .slice _ _ _) rfl rfl ?_
 refine lnS rfl Tryz.underlying30 rfl ?_
 refine cvi rfl rfl Tryz.underlying28 (by first | exact w_u64 (by omega) | exact w_u64 (rng_u64 _) | exact m_u64 _) rfl ?_
 refine mv (v := .int .u64 _) rfl rfl ?_
 refine quo (c := (n : Int)) rfl rfl (by omega) (by omega) (by rw [w_u64 (by omega)]; omega) rfl ?_
 refine asg (v := .int .u64 _) rfl rfl ?_
 refine nl ?_
 refine then_n ?_
 refine sq ?_
 refine sq ?_
 refine rg ?_
 refine mv (v := .int .u64 _) rfl rfl ?_
 refine mv (v := .int .u64 _) rfl rfl ?_
 refine geq rfl rfl rfl ?_
 refine nl ?_
 refine then_n ?_
 refine cF rfl (by omega) ?_
 refine sk ?_
 refine then_n ?_
 refine sq ?_
 refine rg ?_
 refine bsl (sz := 1) (out := ?o1) H Tryz.underlying30 ze5 sz5_1 (by decide) ?f1 rfl ?_
 case f1 =>
  exact FS.nil
 clear H; intro b2 w2 hb2 H F
 refine mv (v := .slice _ _ _) rfl rfl ?_
 refine mv (v := .int .u64 _) rfl rfl ?_
 refine mv (v := .int .u64 _) rfl rfl ?_
 refine mul (c := ((a * 512 : Nat) : Int)) rfl rfl (by rw [w_u64 (by omega)]; omega) rfl ?_
 refine mv (v := .int .u64 _) rfl rfl ?_
 refine mv (v := .int .u64 _) rfl rfl ?_
 refine mul (c := ((a * 512 : Nat) : Int)) rfl rfl (by rw [w_u64 (by omega)]; omega) rfl ?_
 refine add (c := ((a * 512 + 92 : Nat) : Int)) rfl rfl (by rw [w_u64 (by omega)]; omega) rfl ?_
 refine sllhN (a * 512) (92) (c - a * 512) rfl rfl rfl Tryz.underlying30 sz5_1 (by omega) (by omega) rfl ?_
 refine apZ (bs := pcs bs (a * 512) 92) H rfl rfl (RB.of (b := q) (o := a * 512) (n := 92) H (by omega)) Tryz.underlying30 ri5 (by omega) rfl ?_
 clear H; intro q9 c9 w3 hq9 hc9 hc9m _ H
 unfold maxLen at hc9m
 refine asg (v := .slice _ _ _) rfl rfl ?_
 refine nl ?_
 refine then_n ?_
 refine sq ?_
 refine rg ?_
 refine mv (v := .slice _ _ _) rfl rfl ?_
 refine sllhN (16) (4) (c9 - 16) rfl rfl rfl Tryz.underlying30 sz5_1 (by omega) (by omega) rfl ?_
 refine cl ca58 (c_le _ q9 16 4 _ _ _ _ (H.look (b := q9)) (by rw [List.length_append, hp92]; omega) (by decide)) rfl ?_
 rintro _ w4 ⟨rfl, F⟩
 replace H := H.keep F; clear F
 rw [leH (o := 16) (k := 4) hA92 (by decide)]
 refine asg (v := .int .u64 _) rfl rfl ?_
 refine nl ?_
 refine then_n ?_
 refine sq ?_
 refine rg ?_
 refine mv (v := .slice _ _ _) rfl rfl ?_
 refine sllhN (16) (4) (c9 - 16) rfl rfl rfl Tryz.underlying30 sz5_1 (by omega) (by omega) rfl ?_
 refine cl ca45 (c_putLe _ q9 16 4 _ _ _ _ (H.look (b := q9)) (by rw [List.length_append, hp92]; omega) (by decide)) rfl ?_
 rintro _ w5 ⟨rfl, hlen, F, hnew⟩
 replace H := H.put (b := q9) F hnew; clear F hnew hlen
 rw [putZ hA92] at H
 refine nl ?_
 refine then_n ?_
 refine sq ?_
 refine sq ?_
 refine rg ?_
 refine mv (v := .slice _ _ _) rfl rfl ?_
 refine slh rfl rfl Tryz.underlying30 sz5_1 (by first | trivial | omega | (simp; omega)) rfl ?_
 refine cvBS rfl (by have e := RB.of (b := q9) (o := 0) (n := 8) H (by rw [List.length_append, hz92]; omega); rw [sigF hA92] at e; exact e) Tryz.underlying30 Tryz.underlying5 Tryz.underlying9 rfl ?_
 refine neqT rfl rfl rfl ?_
 refine mv (v := .bool _) rfl rfl ?_
 refine spd (t := 52) rfl (fun hg1 => ?_) (fun hg1 => ?_)
 ·refine gn rfl rfl ?_
  refine gn rfl rfl ?_
  refine gn rfl rfl ?_
  refine gn rfl rfl ?_
  refine pkT (v := .bool _) rfl rfl rfl ?_
  refine mv (v := .bool _) rfl rfl ?_
  refine gn rfl rfl ?_
  refine gn rfl rfl ?_
  refine gn rfl rfl ?_
  refine gn rfl rfl ?_
  refine gn rfl rfl ?_
  refine pkT (v := .bool _) rfl rfl rfl ?_
  refine mv (v := .bool _) rfl rfl ?_
  refine gn rfl rfl ?_
  refine gn rfl rfl ?_
  refine gn rfl rfl ?_
  refine gn rfl rfl ?_
  refine gn rfl rfl ?_
  refine pkT (v := .bool _) rfl rfl rfl ?_
  refine mv (v := .bool _) rfl rfl ?_
  refine gn rfl rfl ?_
  refine gn rfl rfl ?_
  refine gn rfl rfl ?_
  refine gn rfl rfl ?_
  refine pkT (v := .bool _) rfl rfl rfl ?_
  refine mv (v := .bool _) rfl rfl ?_
  refine gn rfl rfl ?_
  refine gn rfl rfl ?_
  refine gn rfl rfl ?_
  refine gn rfl rfl ?_
  refine pkT (v := .bool _) rfl rfl rfl ?_
  refine nl ?_
  refine then_n ?_
  refine cbT rfl rfl ?_
  refine sq ?_
  refine rg ?_
  refine la H rfl ag24_5 rfl rfl rfl ?_
  refine sa H rfl rfl ag24_5 rfl rfl (by decide) (by omega) rfl ?_
  clear H; intro w6 H _
  refine asg (v := .bool _) rfl rfl ?_
  refine nl ?_
  refine then_n ?_
  refine rt ?_
  refine then_r ?_
  refine finR_r ?_
  have hgF : gatB bs n a = false := by
   unfold gatB sigOk crcOk
   simp_all [efiL]
  rw [hgF]
  exact ⟨[_, _], ⟨finC rfl (H.look (b := b1)) ag24_5, rfl, trivial⟩, .agg (gtCells none 0 0 0 [] false false).toArray, rfl, fun h => Bool.noConfusion h, fun _ => rfl, H.fr⟩
 ·refine gy rfl ?_
  refine mv (v := .slice _ _ _) rfl rfl ?_
  refine gy rfl ?_
  refine sllhN (12) (4) (c9 - 12) rfl rfl rfl Tryz.underlying30 sz5_1 (by omega) (by omega) rfl ?_
  refine gy rfl ?_
  refine cl ca58 (c_le _ q9 12 4 _ _ _ _ (H.look (b := q9)) (by rw [List.length_append, hz92]; omega) (by decide)) rfl ?_
  rintro _ w7 ⟨rfl, F⟩
  replace H := H.keep F; clear F
  rw [leF (o := 12) (k := 4) hA92 (by decide) (by decide)]
  refine gy rfl ?_
  refine neq rfl rfl rfl ?_
  refine pkF (v := .bool _) rfl rfl rfl ?_
  refine mv (v := .bool _) rfl rfl ?_
  refine spd (t := 58) rfl (fun hg2 => ?_) (fun hg2 => ?_)
  ·refine gn rfl rfl ?_
   refine gn rfl rfl ?_
   refine gn rfl rfl ?_
   refine gn rfl rfl ?_
   refine gn rfl rfl ?_
   refine pkT (v := .bool _) rfl rfl rfl ?_
   refine mv (v := .bool _) rfl rfl ?_
   refine gn rfl rfl ?_
   refine gn rfl rfl ?_
   refine gn rfl rfl ?_
   refine gn rfl rfl ?_
   refine gn rfl rfl ?_
   refine pkT (v := .bool _) rfl rfl rfl ?_
   refine mv (v := .bool _) rfl rfl ?_
   refine gn rfl rfl ?_
   refine gn rfl rfl ?_
   refine gn rfl rfl ?_
   refine gn rfl rfl ?_
   refine pkT (v := .bool _) rfl rfl rfl ?_
   refine mv (v := .bool _) rfl rfl ?_
   refine gn rfl rfl ?_
   refine gn rfl rfl ?_
   refine gn rfl rfl ?_
   refine gn rfl rfl ?_
   refine pkT (v := .bool _) rfl rfl rfl ?_
   refine nl ?_
   refine then_n ?_
   refine cbT rfl rfl ?_
   refine sq ?_
   refine rg ?_
   refine la H rfl ag24_5 rfl rfl rfl ?_
   refine sa H rfl rfl ag24_5 rfl rfl (by decide) (by omega) rfl ?_
   clear H; intro w8 H _
   refine asg (v := .bool _) rfl rfl ?_
   refine nl ?_
   refine then_n ?_
   refine rt ?_
   refine then_r ?_
   refine finR_r ?_
   have hgF : gatB bs n a = false := by
    unfold gatB sigOk crcOk
    simp_all [efiL]
   rw [hgF]
   exact ⟨[_, _], ⟨finC rfl (H.look (b := b1)) ag24_5, rfl, trivial⟩, .agg (gtCells none 0 0 0 [] false false).toArray, rfl, fun h => Bool.noConfusion h, fun _ => rfl, H.fr⟩
  ·refine gy rfl ?_
   refine mv (v := .slice _ _ _) rfl rfl ?_
   refine gy rfl ?_
   refine cl ca46 (c_specCrc _ _ _ _ (zHdr (pcs bs (a * 512) 92)) (by have e := RB.of (b := q9) (o := 0) (n := 92) H (by rw [List.length_append, hz92]; omega); rw [List.drop_zero, List.take_append_of_le_length (by omega), List.take_of_length_le (by omega)] at e; exact e) (by decide)) rfl ?_
   rintro _ w9 ⟨rfl, F⟩
   replace H := H.keep F; clear F
   refine gy rfl ?_
   refine cvi (c := crc32 (zHdr (pcs bs (a * 512) 92))) rfl rfl Tryz.underlying28 (w_u64 (by omega)) rfl ?_
   refine gy rfl ?_
   refine mv (v := .int .u64 _) rfl rfl ?_
   refine gy rfl ?_
   refine neq rfl rfl rfl ?_
   refine pkF (v := .bool _) rfl rfl rfl ?_
   refine mv (v := .bool _) rfl rfl ?_
   refine spd (t := 65) rfl (fun hg3 => ?_) (fun hg3 => ?_)
   ·refine gn rfl rfl ?_
    refine gn rfl rfl ?_
    refine gn rfl rfl ?_
    refine gn rfl rfl ?_
    refine gn rfl rfl ?_
    refine pkT (v := .bool _) rfl rfl rfl ?_
    refine mv (v := .bool _) rfl rfl ?_
    refine gn rfl rfl ?_
    refine gn rfl rfl ?_
    refine gn rfl rfl ?_
    refine gn rfl rfl ?_
    refine pkT (v := .bool _) rfl rfl rfl ?_
    refine mv (v := .bool _) rfl rfl ?_
    refine gn rfl rfl ?_
    refine gn rfl rfl ?_
    refine gn rfl rfl ?_
    refine gn rfl rfl ?_
    refine pkT (v := .bool _) rfl rfl rfl ?_
    refine nl ?_
    refine then_n ?_
    refine cbT rfl rfl ?_
    refine sq ?_
    refine rg ?_
    refine la H rfl ag24_5 rfl rfl rfl ?_
    refine sa H rfl rfl ag24_5 rfl rfl (by decide) (by omega) rfl ?_
    clear H; intro w10 H _
    refine asg (v := .bool _) rfl rfl ?_
    refine nl ?_
    refine then_n ?_
    refine rt ?_
    refine then_r ?_
    refine finR_r ?_
    have hgF : gatB bs n a = false := by
     unfold gatB sigOk crcOk
     simp_all [efiL]
    rw [hgF]
    exact ⟨[_, _], ⟨finC rfl (H.look (b := b1)) ag24_5, rfl, trivial⟩, .agg (gtCells none 0 0 0 [] false false).toArray, rfl, fun h => Bool.noConfusion h, fun _ => rfl, H.fr⟩
   ·refine gy rfl ?_
    refine mv (v := .slice _ _ _) rfl rfl ?_
    refine gy rfl ?_
    refine sllhN (24) (8) (c9 - 24) rfl rfl rfl Tryz.underlying30 sz5_1 (by omega) (by omega) rfl ?_
    refine gy rfl ?_
    refine cl ca58 (c_le _ q9 24 8 _ _ _ _ (H.look (b := q9)) (by rw [List.length_append, hz92]; omega) (by decide)) rfl ?_
    rintro _ w11 ⟨rfl, F⟩
    replace H := H.keep F; clear F
    rw [leF (o := 24) (k := 8) hA92 (by decide) (by decide)]
    refine gy rfl ?_
    refine mv (v := .int .u64 _) rfl rfl ?_
    refine gy rfl ?_
    refine neq rfl rfl rfl ?_
    refine pkF (v := .bool _) rfl rfl rfl ?_
    refine mv (v := .bool _) rfl rfl ?_
    refine spd (t := 72) rfl (fun hg4 => ?_) (fun hg4 => ?_)
    ·refine gn rfl rfl ?_
     refine gn rfl rfl ?_
     refine gn rfl rfl ?_
     refine gn rfl rfl ?_
     refine pkT (v := .bool _) rfl rfl rfl ?_
     refine mv (v := .bool _) rfl rfl ?_
     refine gn rfl rfl ?_
     refine gn rfl rfl ?_
     refine gn rfl rfl ?_
     refine gn rfl rfl ?_
     refine pkT (v := .bool _) rfl rfl rfl ?_
     refine nl ?_
     refine then_n ?_
     refine cbT rfl rfl ?_
     refine sq ?_
     refine rg ?_
     refine la H rfl ag24_5 rfl rfl rfl ?_
     refine sa H rfl rfl ag24_5 rfl rfl (by decide) (by omega) rfl ?_
     clear H; intro w12 H _
     refine asg (v := .bool _) rfl rfl ?_
     refine nl ?_
     refine then_n ?_
     refine rt ?_
     refine then_r ?_
     refine finR_r ?_
     have hgF : gatB bs n a = false := by
      unfold gatB sigOk crcOk
      simp_all [efiL]
     rw [hgF]
     exact ⟨[_, _], ⟨finC rfl (H.look (b := b1)) ag24_5, rfl, trivial⟩, .agg (gtCells none 0 0 0 [] false false).toArray, rfl, fun h => Bool.noConfusion h, fun _ => rfl, H.fr⟩
    ·refine gy rfl ?_
     refine mv (v := .slice _ _ _) rfl rfl ?_
     refine gy rfl ?_
     refine sllhN (84) (4) (c9 - 84) rfl rfl rfl Tryz.underlying30 sz5_1 (by omega) (by omega) rfl ?_
     refine gy rfl ?_
     refine cl ca58 (c_le _ q9 84 4 _ _ _ _ (H.look (b := q9)) (by rw [List.length_append, hz92]; omega) (by decide)) rfl ?_
     rintro _ w13 ⟨rfl, F⟩
     replace H := H.keep F; clear F
     rw [leF (o := 84) (k := 4) hA92 (by decide) (by decide)]
     refine gy rfl ?_
     refine neq rfl rfl rfl ?_
     refine pkF (v := .bool _) rfl rfl rfl ?_
     refine mv (v := .bool _) rfl rfl ?_
     refine spd (t := 78) rfl (fun hg5 => ?_) (fun hg5 => ?_)
     ·refine gn rfl rfl ?_
      refine gn rfl rfl ?_
      refine gn rfl rfl ?_
      refine gn rfl rfl ?_
      refine pkT (v := .bool _) rfl rfl rfl ?_
      refine nl ?_
      refine then_n ?_
      refine cbT rfl rfl ?_
      refine sq ?_
      refine rg ?_
      refine la H rfl ag24_5 rfl rfl rfl ?_
      refine sa H rfl rfl ag24_5 rfl rfl (by decide) (by omega) rfl ?_
      clear H; intro w14 H _
      refine asg (v := .bool _) rfl rfl ?_
      refine nl ?_
      refine then_n ?_
      refine rt ?_
      refine then_r ?_
      refine finR_r ?_
      have hgF : gatB bs n a = false := by
       unfold gatB sigOk crcOk
       simp_all [efiL]
      rw [hgF]
      exact ⟨[_, _], ⟨finC rfl (H.look (b := b1)) ag24_5, rfl, trivial⟩, .agg (gtCells none 0 0 0 [] false false).toArray, rfl, fun h => Bool.noConfusion h, fun _ => rfl, H.fr⟩
     ·refine gy rfl ?_
      refine mv (v := .slice _ _ _) rfl rfl ?_
      refine gy rfl ?_
      refine sllhN (80) (4) (c9 - 80) rfl rfl rfl Tryz.underlying30 sz5_1 (by omega) (by omega) rfl ?_
      refine gy rfl ?_
      refine cl ca58 (c_le _ q9 80 4 _ _ _ _ (H.look (b := q9)) (by rw [List.length_append, hz92]; omega) (by decide)) rfl ?_
      rintro _ w15 ⟨rfl, F⟩
      replace H := H.keep F; clear F
      rw [leF (o := 80) (k := 4) hA92 (by decide) (by decide)]
      refine gy rfl ?_
      refine neq rfl rfl rfl ?_
      refine pkF (v := .bool _) rfl rfl rfl ?_
      refine nl ?_
      refine then_n ?_
      refine cd rfl (fun hc2 => ?_) (fun hc2 => ?_)
      ·refine sq ?_
       refine rg ?_
       refine la H rfl ag24_5 rfl rfl rfl ?_
       refine sa H rfl rfl ag24_5 rfl rfl (by decide) (by omega) rfl ?_
       clear H; intro w16 H _
       refine asg (v := .bool _) rfl rfl ?_
       refine nl ?_
       refine then_n ?_
       refine rt ?_
       refine then_r ?_
       refine finR_r ?_
       have hgF : gatB bs n a = false := by
        unfold gatB sigOk crcOk
        simp_all [efiL]
       rw [hgF]
       exact ⟨[_, _], ⟨finC rfl (H.look (b := b1)) ag24_5, rfl, trivial⟩, .agg (gtCells none 0 0 0 [] false false).toArray, rfl, fun h => Bool.noConfusion h, fun _ => rfl, H.fr⟩
      ·refine sk ?_
       refine then_n ?_
       refine sq ?_
       refine rg ?_
       refine mv (v := .slice _ _ _) rfl rfl ?_
       refine sllhN (72) (8) (c9 - 72) rfl rfl rfl Tryz.underlying30 sz5_1 (by omega) (by omega) rfl ?_
       refine cl ca58 (c_le _ q9 72 8 _ _ _ _ (H.look (b := q9)) (by rw [List.length_append, hz92]; omega) (by decide)) rfl ?_
       rintro _ w17 ⟨rfl, F⟩
       replace H := H.keep F; clear F
       rw [leF (o := 72) (k := 8) hA92 (by decide) (by decide)]
       have hkr := (fld_rng8 (ds := bs) (o := a * 512 + 72) (n := 8) (by decide)).1
       obtain ⟨k, hk⟩ : ∃ k : Nat, fld bs (a * 512 + 72) 8 = (k : Int) := ⟨_, (Int.toNat_of_nonneg hkr).symm⟩
       rw [hk]
       have hkm := (fld_rng8 (ds := bs) (o := a * 512 + 72) (n := 8) (by decide)).2
       rw [hk] at hkm
       have hcr2 := crc32_rng (pcs bs (k * 512) 16384)
       refine asg (v := .int .u64 _) rfl rfl ?_
       refine nl ?_
       refine then_n ?_
       refine sq ?_
       refine sq ?_
       refine rg ?_
       refine mv (v := .int .u64 _) rfl rfl ?_
       refine mv (v := .int .u64 _) rfl rfl ?_
       refine geq rfl rfl rfl ?_
       refine mv (v := .bool _) rfl rfl ?_
       refine spd (t := 91) rfl (fun hg6 => ?_) (fun hg6 => ?_)
       ·refine gn rfl rfl ?_
        refine gn rfl rfl ?_
        refine gn rfl rfl ?_
        refine gn rfl rfl ?_
        refine gn rfl rfl ?_
        refine gn rfl rfl ?_
        refine pkT (v := .bool _) rfl rfl rfl ?_
        refine nl ?_
        refine then_n ?_
        refine cbT rfl rfl ?_
        refine sq ?_
        refine rg ?_
        refine la H rfl ag24_5 rfl rfl rfl ?_
        refine sa H rfl rfl ag24_5 rfl rfl (by decide) (by omega) rfl ?_
        clear H; intro w18 H _
        refine asg (v := .bool _) rfl rfl ?_
        refine nl ?_
        refine then_n ?_
        refine rt ?_
        refine then_r ?_
        refine finR_r ?_
        have hgF : gatB bs n a = false := by
         unfold gatB sigOk crcOk
         rw [hk, decide_eq_false (p := (k : Int) < (n : Int)) (by omega)]; simp
        rw [hgF]
        exact ⟨[_, _], ⟨finC rfl (H.look (b := b1)) ag24_5, rfl, trivial⟩, .agg (gtCells none 0 0 0 [] false false).toArray, rfl, fun h => Bool.noConfusion h, fun _ => rfl, H.fr⟩
       ·refine gy rfl ?_
        refine mv (v := .int .u64 _) rfl rfl ?_
        refine gy rfl ?_
        refine mv (v := .int .u64 _) rfl rfl ?_
        refine gy rfl ?_
        refine sub (c := (n : Int) - k) rfl rfl (by rw [w_u64 (by omega)]) rfl ?_
        refine gy rfl ?_
        refine mv (v := .int .i64 _) rfl rfl ?_
        refine gy rfl ?_
        refine cl ca21 (c_tabSectors _) rfl ?_
        rintro _ w19 ⟨rfl, F⟩
        replace H := H.keep F; clear F
        refine gy rfl ?_
        refine lss rfl rfl rfl ?_
        refine pkF (v := .bool _) rfl rfl rfl ?_
        refine nl ?_
        refine then_n ?_
        refine cd rfl (fun hc3 => ?_) (fun hc3 => ?_)
        ·refine sq ?_
         refine rg ?_
         refine la H rfl ag24_5 rfl rfl rfl ?_
         refine sa H rfl rfl ag24_5 rfl rfl (by decide) (by omega) rfl ?_
         clear H; intro w20 H _
         refine asg (v := .bool _) rfl rfl ?_
         refine nl ?_
         refine then_n ?_
         refine rt ?_
         refine then_r ?_
         refine finR_r ?_
         have hgF : gatB bs n a = false := by
          unfold gatB sigOk crcOk
          rw [hk, decide_eq_false (p := 32 ≤ (n : Int) - (k : Int)) (by omega)]; simp
         rw [hgF]
         exact ⟨[_, _], ⟨finC rfl (H.look (b := b1)) ag24_5, rfl, trivial⟩, .agg (gtCells none 0 0 0 [] false false).toArray, rfl, fun h => Bool.noConfusion h, fun _ => rfl, H.fr⟩
        ·refine sk ?_
         refine then_n ?_
         refine sq ?_
         refine rg ?_
         refine mv (v := .slice _ _ _) rfl rfl ?_
         refine mv (v := .int .u64 _) rfl rfl ?_
         refine mv (v := .int .u64 _) rfl rfl ?_
         refine mul (c := ((k * 512 : Nat) : Int)) rfl rfl (by rw [w_u64 (by omega)]; omega) rfl ?_
         refine mv (v := .int .u64 _) rfl rfl ?_
         refine mv (v := .int .u64 _) rfl rfl ?_
         refine mul (c := ((k * 512 : Nat) : Int)) rfl rfl (by rw [w_u64 (by omega)]; omega) rfl ?_
         refine add (c := ((k * 512 + 16384 : Nat) : Int)) rfl rfl (by rw [w_u64 (by omega)]; omega) rfl ?_
         refine sllhN (k * 512) (16384) (c - k * 512) rfl rfl rfl Tryz.underlying30 sz5_1 (by omega) (by omega) rfl ?_
         refine asg (v := .slice _ _ _) rfl rfl ?_
         refine nl ?_
         refine then_n ?_
         refine sq ?_
         refine sq ?_
         refine dr (by kernel_rfl) ?_
         have H := H.drew
         refine hold (fun _ => True) [] ?_
         refine tk (i := 0) rfl (by kernel_rfl) rfl trivial (fun _ _ => r_mv (v := .slice _ _ _) rfl) ?_
         refine tk (i := 3) rfl (by kernel_rfl) rfl trivial (fun _ _ => r_mv (v := .slice _ _ _) rfl) ?_
         refine tk (i := 4) rfl (by kernel_rfl) rfl trivial (fun _ _ => r_sllhN (88) (4) (c9 - 88) rfl rfl rfl Tryz.underlying30 sz5_1 (by omega) (by omega)) ?_
         refine unfree ?_
         refine fo (i := 1) (by kernel_rfl) rfl rfl ?_
         refine cl ca46 (c_specCrc _ _ _ _ (pcs bs (k * 512) 16384) (RB.of (b := q) (o := k * 512) (n := 16384) H (by omega)) (by decide)) rfl ?_
         rintro _ w21 ⟨rfl, F⟩
         replace H := H.keep F; clear F
         refine nl ?_
         refine then_n ?_
         refine holdH H [] ?_
         refine tk (i := 2) rfl (by kernel_rfl) rfl H (fun w' H => r_cvi (c := crc32 (pcs bs (k * 512) 16384)) rfl rfl Tryz.underlying28 (w_u64 (by omega))) ?_
         refine fk (i := 5) (by kernel_rfl) rfl rfl rfl ?_
         refine cl ca58 (c_le _ q9 88 4 _ _ _ _ (H.look (b := q9)) (by rw [List.length_append, hz92]; omega) (by decide)) rfl ?_
         rintro _ w22 ⟨rfl, F⟩
         replace H := H.keep F; clear F
         rw [leF (o := 88) (k := 4) hA92 (by decide) (by decide)]
         refine nl ?_
         refine then_n ?_
         refine ⟨H, ?_⟩
         refine tk (i := 6) rfl (by kernel_rfl) rfl H (fun w' H => r_neq rfl rfl) ?_
         refine da (by kernel_rfl) ?_
         refine then_n ?_
         refine cd rfl (fun hc4 => ?_) (fun hc4 => ?_)
         ·refine sq ?_
          refine rg ?_
          refine la H rfl ag24_5 rfl rfl rfl ?_
          refine sa H rfl rfl ag24_5 rfl rfl (by decide) (by omega) rfl ?_
          clear H; intro w23 H _
          refine asg (v := .bool _) rfl rfl ?_
          refine nl ?_
          refine then_n ?_
          refine rt ?_
          refine then_r ?_
          refine finR_r ?_
          have hgF : gatB bs n a = false := by
           unfold gatB sigOk crcOk
           rw [hk, Int.toNat_natCast, decide_eq_false (p := crc32 (pcs bs (k * 512) 16384) = fld bs (a * 512 + 88) 4) (by omega)]; simp
          rw [hgF]
          exact ⟨[_, _], ⟨finC rfl (H.look (b := b1)) ag24_5, rfl, trivial⟩, .agg (gtCells none 0 0 0 [] false false).toArray, rfl, fun h => Bool.noConfusion h, fun _ => rfl, H.fr⟩
         ·refine sk ?_
          refine then_n ?_
          refine sq ?_
          refine rg ?_
          refine mv (v := .int .i64 _) rfl rfl ?_
          refine mv (v := .slice _ _ _) rfl rfl ?_
          refine sllhN (56) (16) (c9 - 56) rfl rfl rfl Tryz.underlying30 sz5_1 (by omega) (by omega) rfl ?_
          refine cl ca59 (c_guidText _ _ _ _ (pcs bs (a * 512 + 56) 16) (by have e := RB.of (b := q9) (o := 56) (n := 16) H (by rw [List.length_append, hz92]; omega); rw [guF hA92] at e; exact e) rfl) rfl ?_
          rintro _ w24 ⟨rfl, F⟩
          replace H := H.keep F; clear F
          refine bu (out := ?o2) ze24 bo24 ?f2 rfl ?_
          case f2 =>
           refine FL.one (v := .int .i64 _) rfl pl24_1 rfl (by first | decide | simp) ?_
           refine FL.one (v := .string _) rfl pl24_2 rfl (by first | decide | simp) ?_
           exact FL.nil
          refine sa (cs' := gtCells none 0 0 512 (gT (pcs bs (a * 512 + 56) 16)) false false) H rfl rfl ag24_5 rfl rfl (by show 0 + 5 ≤ 5; decide) (by omega) rfl ?_
          clear H; intro w71 H _
          refine nl ?_
          refine then_n ?_
          refine sq ?_
          refine sq ?_
          refine rg ?_
          refine mv (v := .int .i64 _) rfl rfl ?_
          refine nl ?_
          refine then_n ?_
          refine bk ?_
          refine lpM (α := Nat × Option Addr × Nat) [14, 15, 16, 17, 18, 19, 122, 123, 124, 125, 126, 127, 128, 129, 130, 131, 132, 133, 134, 135, 136, 137, 138, 139, 140, 141, 142, 143, 144, 145, 146, 147, 148, 149, 150, 151, 152, 153, 154, 155, 156, 157, 158, 159, 160, 161, 162, 163, 164, 165, 166, 167, 168, 169, 170, 171, 172, 173, 174, 175, 176, 177, 178, 179, 180, 181, 182, 183] (fun (i, D, cap) => [(122, .int .i64 (i : Int))]) (fun (i, D, cap) w' => i ≤ 128 ∧ OR 54 8 w [] w' [⟨q9, .cells (Bs (zHdr (pcs bs (a * 512) 92) ++ List.replicate (c9 - 92) 0)).toArray 5 (0, 0), true⟩, ⟨b1, .cells (gtCells D (usedP (pcs bs (k * 512) 16384) i).length cap 512 (gT (pcs bs (a * 512 + 56) 16)) false false).toArray 24 (0, 0), true⟩, ⟨q, .cells (Bs bs).toArray T fr, false⟩] D (usedP (pcs bs (k * 512) 16384) i).length cap ((usedP (pcs bs (k * 512) 16384) i).flatMap GP.cells)) (fun (i, D, cap) => 128 - i) (0, none, 0) ?_ (fCX (fN _)) ?_
          ·exact ⟨by omega, OR.nil (H.subX)⟩
          ·rintro ⟨i, D, cap⟩ ρx w25 ⟨hi, O⟩
           have H := O.sh
           refine sq ?_
           refine rg ?_
           refine lss rfl rfl rfl ?_
           refine nl ?_
           refine then_n ?_
           refine sq ?_
           refine cd rfl (fun hc5 => ?_) (fun hc5 => ?_)
           ·have hi8 : i < 128 := by omega
            have hul := usedP_le (pcs bs (k * 512) 16384) i
            refine sk ?_
            refine then_n ?_
            refine sq ?_
            refine bk ?_
            refine sq ?_
            refine rg ?_
            refine mv (v := .int .i64 _) rfl rfl ?_
            refine asg (v := .int .i64 _) rfl rfl ?_
            refine nl ?_
            refine then_n ?_
            refine sq ?_
            refine rg ?_
            refine mv (v := .slice _ _ _) rfl rfl ?_
            refine mv (v := .int .i64 _) rfl rfl ?_
            refine mul rfl rfl (by first | exact w_i64 (by omega) | exact w_i64 (rng_i64 _) | rfl) rfl ?_
            refine mv (v := .int .i64 _) rfl rfl ?_
            refine add rfl rfl (by first | exact w_i64 (by omega) | exact w_i64 (rng_i64 _) | rfl) rfl ?_
            refine mul rfl rfl (by first | exact w_i64 (by omega) | exact w_i64 (rng_i64 _) | rfl) rfl ?_
            refine sllhN (k * 512 + 128 * i) (128) (c - (k * 512 + 128 * i)) rfl rfl rfl Tryz.underlying30 sz5_1 (by omega) (by omega) rfl ?_
            refine asg (v := .slice _ _ _) rfl rfl ?_
            refine nl ?_
            refine then_n ?_
            refine sq ?_
            refine sq ?_
            refine rg ?_
            refine mv (v := .slice _ _ _) rfl rfl ?_
            refine slh rfl rfl Tryz.underlying30 sz5_1 (by first | trivial | omega | (simp; omega)) rfl ?_
            refine cl ca59 (c_guidText _ _ _ _ (pcs (entA (pcs bs (k * 512) 16384) i) 0 16) (by have e := RB.of (b := q) (o := k * 512 + (128 * i + 0)) (n := 16) H (by omega); rw [← gtE (by decide) hi8]; exact e) rfl) rfl ?_
            rintro _ w26 ⟨rfl, F⟩
            replace H := H.keep F; replace O := O.keep F; clear F
            refine eqlT rfl rfl rfl ?_
            refine nl ?_
            refine then_n ?_
            refine cd rfl (fun hc6 => ?_) (fun hc6 => ?_)
            ·have hfe : freeE (entA (pcs bs (k * 512) 16384) i) = true := decide_eq_true ((gT_zero (pcs_len (by rw [entA_len (by omega) hi8]; decide))).1 hc6)
             refine ex ?_
             refine then_e ?_
             refine in_hit rfl ?_
             refine then_n ?_
             refine rg ?_
             refine add rfl rfl (by first | exact w_i64 (by omega) | exact w_i64 (rng_i64 _) | rfl) rfl ?_
             refine mv (v := .int .i64 _) rfl rfl ?_
             refine nl ?_
             refine loop_n ?_
             exact ⟨(i + 1, D, cap), (by (try dsimp only); omega), ⟨by omega, by rw [usedP_t hfe]; exact O.subX⟩, (fCX (fN _)), agX⟩
            ·have hfe : freeE (entA (pcs bs (k * 512) 16384) i) = false := decide_eq_false (fun h => hc6 ((gT_zero (pcs_len (by rw [entA_len (by omega) hi8]; decide))).2 h))
             refine sk ?_
             refine then_n ?_
             refine sq ?_
             refine rg ?_
             refine asg (v := .slice _ _ _) rfl rfl ?_
             refine nl ?_
             refine then_n ?_
             refine sq ?_
             refine sq ?_
             refine rg ?_
             refine asg (v := .int .i64 _) rfl rfl ?_
             refine nl ?_
             refine then_n ?_
             refine bk ?_
             have hq0 := H.look (b := q)
             refine lpM (α := Nat × Option Addr × Nat) [16, 17, 136, 137, 138, 139, 140, 141, 142, 143, 144, 145, 146, 147, 148, 149] (fun (j, A2, cap2) => [(16, .slice A2 j cap2), (17, .int .i64 (56 + 2 * (j : Int)))]) (fun (j, A2, cap2) w' => j ≤ 36 ∧ OR 25 1 w26 [] w' [⟨q, .cells (Bs bs).toArray T fr, false⟩] A2 j cap2 (((unE (entA (pcs bs (k * 512) 16384) i)).take j).map (Value.int .u16))) (fun (j, A2, cap2) => 36 - j) (0, none, 0) ?_ (fCX (fCX (fN _))) ?_
             ·exact ⟨by omega, OR.nil (SH.ro1 hq0)⟩
             ·rintro ⟨j, A2, cap2⟩ ρx w27 ⟨hj, O2⟩
              have H := O2.sh
              have hur : 0 ≤ fld (entA (pcs bs (k * 512) 16384) i) (56 + 2 * j) 2 ∧ fld (entA (pcs bs (k * 512) 16384) i) (56 + 2 * j) 2 ≤ 65535 := fld_rng2
              refine sq ?_
              refine sq ?_
              refine rg ?_
              refine mv (v := .int .i64 _) rfl rfl ?_
              refine lss rfl rfl rfl ?_
              refine nl ?_
              refine then_n ?_
              refine cd rfl (fun hc7 => ?_) (fun hc7 => ?_)
              ·refine sk ?_
               refine then_n ?_
               refine sq ?_
               refine bk ?_
               refine rg ?_
               refine mv (v := .slice _ _ _) rfl rfl ?_
               refine mv (v := .slice _ _ _) rfl rfl ?_
               refine mv (v := .int .i64 _) rfl rfl ?_
               refine mv (v := .int .i64 _) rfl rfl ?_
               refine add rfl rfl (by first | exact w_i64 (by omega) | exact w_i64 (rng_i64 _) | rfl) rfl ?_
               refine sllhN (k * 512 + (128 * i + (56 + 2 * j))) (2) (c - (k * 512 + (128 * i + (56 + 2 * j)))) rfl rfl rfl Tryz.underlying30 sz5_1 (by omega) (by omega) rfl ?_
               refine cl ca58 (c_le _ q (k * 512 + (128 * i + (56 + 2 * j))) 2 _ _ _ _ (H.look (b := q)) (by omega) (by decide)) rfl ?_
               rintro _ w28 ⟨rfl, F⟩
               replace H := H.keep F; replace O2 := O2.keep F; clear F
               rw [leE (by omega) hi8]
               refine cvi (c := fld (entA (pcs bs (k * 512) 16384) i) (56 + 2 * j) 2) rfl rfl Tryz.underlying25 (w_u16 (by omega)) rfl ?_
               refine bsl (sz := 1) (out := ?o3) H Tryz.underlying90 ze25 sz25_1 (by decide) ?f3 rfl ?_
               case f3 =>
                refine FS.one (v := .int .u16 _) rfl rfl rfl (by first | decide | simp) ?_
                exact FS.nil
               intro b3 w29 hb3 H1 F; replace O2 := O2.new F hb3 H1.look; clear H H1 F; have H := O2.sh
               refine apO (zs := [.int .u16 0]) [.int .u16 (fld (entA (pcs bs (k * 512) 16384) i) (56 + 2 * j) 2)] O2 rfl rfl Tryz.underlying90 ri25 (by first | rfl | simp) (cells_look H.look) (by simp [Value.oneCell']) (by simp) (by omega) (by unfold maxLen; omega) rfl ?_
               clear O2 H; intro D9 cp9 w30 O2
               have H := O2.sh
               refine asg (v := .slice _ _ _) rfl rfl ?_
               refine nl ?_
               refine in_n ?_
               refine then_n ?_
               refine rg ?_
               refine mv (v := .int .i64 _) rfl rfl ?_
               refine add rfl rfl (by first | exact w_i64 (by omega) | exact w_i64 (rng_i64 _) | rfl) rfl ?_
               refine asg (v := .int .i64 _) rfl rfl ?_
               refine nl ?_
               refine loop_n ?_
               exact ⟨(j + 1, D9, cp9), (by (try dsimp only); omega), ⟨by omega, by rw [unE_succ (by omega), List.map_append]; exact O2.subX⟩, (fCX (fCX (fN _))), agX⟩
              ·obtain rfl : j = 36 := by omega
               rw [List.take_of_length_le (by rw [unE_len]; decide)] at O2
               have R2 := O2.r16
               replace O := O.keep O2.sh.fr
               have H := O.sh
               refine ex ?_
               refine then_e ?_
               refine loop_e ?_
               refine in_hit rfl ?_
               refine then_n ?_
               refine sq ?_
               refine dr (by kernel_rfl) ?_
               have H := H.drew
               replace O := O.drew
               refine hold (fun _ => True) [] ?_
               replace R2 := R2.keep (Fr.drew [] _)
               refine tk (i := 0) rfl (by kernel_rfl) rfl trivial (fun _ _ => r_mv (v := .slice _ _ _) rfl) ?_
               refine tk (i := 1) rfl (by kernel_rfl) rfl trivial (fun _ _ => r_sllhN (k * 512 + (128 * i + 32)) (8) (c - (k * 512 + (128 * i + 32))) rfl rfl rfl Tryz.underlying30 sz5_1 (by omega) (by omega)) ?_
               refine tk (i := 3) rfl (by kernel_rfl) rfl trivial (fun _ _ => r_mv (v := .slice _ _ _) rfl) ?_
               refine tk (i := 4) rfl (by kernel_rfl) rfl trivial (fun _ _ => r_sllhN (k * 512 + (128 * i + 40)) (8) (c - (k * 512 + (128 * i + 40))) rfl rfl rfl Tryz.underlying30 sz5_1 (by omega) (by omega)) ?_
               refine unfree ?_
               refine fo (i := 2) (by kernel_rfl) rfl rfl ?_
               refine cl ca58 (c_le _ q (k * 512 + (128 * i + 32)) 8 _ _ _ _ (H.look (b := q)) (by omega) (by decide)) rfl ?_
               rintro _ w31 ⟨rfl, F⟩
               replace R2 := R2.keep F
               replace H := H.keep F; replace O := O.keep F; clear F
               rw [leE (o := 32) (k := 8) (by decide) hi8]
               refine nl ?_
               refine then_n ?_
               refine fo (i := 5) (by kernel_rfl) rfl rfl ?_
               refine cl ca58 (c_le _ q (k * 512 + (128 * i + 40)) 8 _ _ _ _ (H.look (b := q)) (by omega) (by decide)) rfl ?_
               rintro _ w32 ⟨rfl, F⟩
               replace R2 := R2.keep F
               replace H := H.keep F; replace O := O.keep F; clear F
               rw [leE (o := 40) (k := 8) (by decide) hi8]
               refine nl ?_
               refine then_n ?_
               refine holdH H [] ?_
               refine tk (i := 6) rfl (by kernel_rfl) rfl H (fun w' H => r_asg (v := .int .u64 _) rfl) ?_
               refine tk (i := 7) rfl (by kernel_rfl) rfl H (fun w' H => r_asg (v := .int .u64 _) rfl) ?_
               refine da (by kernel_rfl) ?_
               refine then_n ?_
               refine dr (by kernel_rfl) ?_
               have H := H.drew
               replace O := O.drew
               refine hold (fun w' => SH w [] w' [⟨q9, .cells (Bs (zHdr (pcs bs (a * 512) 92) ++ List.replicate (c9 - 92) 0)).toArray 5 (0, 0), true⟩, ⟨b1, .cells (gtCells D (usedP (pcs bs (k * 512) 16384) i).length cap 512 (gT (pcs bs (a * 512 + 56) 16)) false false).toArray 24 (0, 0), true⟩, ⟨q, .cells (Bs bs).toArray T fr, false⟩]) [27] ?_
               refine tk (i := 0) rfl (by kernel_rfl) rfl (H.subX) (fun w' H => r_fa rfl fo24_0) ?_
               refine tk (i := 1) rfl (by kernel_rfl) rfl (H.subX) (fun w' H => r_ld H rfl sc22 rfl) ?_
               replace R2 := R2.keep (Fr.drew [] _)
               refine tk (i := 2) rfl (by kernel_rfl) rfl (H.subX) (fun w' H => r_mv (v := .int .i64 _) rfl) ?_
               refine tk (i := 3) rfl (by kernel_rfl) rfl (H.subX) (fun w' H => r_add rfl rfl (by first | exact w_i64 (by omega) | exact w_i64 (rng_i64 _) | rfl)) ?_
               refine tk (i := 4) rfl (by kernel_rfl) rfl (H.subX) (fun w' H => r_mv (v := .int .u64 _) rfl) ?_
               refine tk (i := 5) rfl (by kernel_rfl) rfl (H.subX) (fun w' H => r_mv (v := .int .u64 _) rfl) ?_
               refine tk (i := 6) rfl (by kernel_rfl) rfl (H.subX) (fun w' H => r_mv (v := .int .u64 _) rfl) ?_
               refine tk (i := 7) rfl (by kernel_rfl) rfl (H.subX) (fun w' H => r_mv (v := .int .u64 _) rfl) ?_
               refine tk (i := 8) rfl (by kernel_rfl) rfl (H.subX) (fun w' H => r_sub rfl rfl (by first | exact w_u64 (by omega) | exact w_u64 (rng_u64 _) | exact m_u64 _)) ?_
               refine tk (i := 9) rfl (by kernel_rfl) rfl (H.subX) (fun w' H => r_add rfl rfl (by first | exact w_u64 (by omega) | exact w_u64 (rng_u64 _) | exact m_u64 _)) ?_
               refine tk (i := 10) rfl (by kernel_rfl) rfl (H.subX) (fun w' H => r_mv (v := .int .u64 _) rfl) ?_
               refine tk (i := 11) rfl (by kernel_rfl) rfl (H.subX) (fun w' H => r_mul rfl rfl (by first | exact w_u64 (by omega) | exact w_u64 (rng_u64 _) | exact m_u64 _)) ?_
               refine tk (i := 12) rfl (by kernel_rfl) rfl (H.subX) (fun w' H => r_mv (v := .slice _ _ _) rfl) ?_
               refine tk (i := 13) rfl (by kernel_rfl) rfl (H.subX) (fun w' H => r_slh rfl rfl Tryz.underlying30 sz5_1 (by first | trivial | omega | (simp; omega))) ?_
               refine tk (i := 15) rfl (by kernel_rfl) rfl (H.subX) (fun w' H => r_mv (v := .slice _ _ _) rfl) ?_
               refine tk (i := 16) rfl (by kernel_rfl) rfl (H.subX) (fun w' H => r_sllhN (k * 512 + (128 * i + 16)) (16) (c - (k * 512 + (128 * i + 16))) rfl rfl rfl Tryz.underlying30 sz5_1 (by omega) (by omega)) ?_
               refine tk (i := 18) rfl (by kernel_rfl) rfl (H.subX) (fun w' H => r_mv (v := .slice _ _ _) rfl) ?_
               refine tk (i := 19) rfl (by kernel_rfl) rfl (H.subX) (fun w' H => r_sllhN (k * 512 + (128 * i + 48)) (8) (c - (k * 512 + (128 * i + 48))) rfl rfl rfl Tryz.underlying30 sz5_1 (by omega) (by omega)) ?_
               refine tk (i := 21) rfl (by kernel_rfl) rfl (H.subX) (fun w' H => r_mv (v := .slice _ _ _) rfl) ?_
               refine fk (i := 14) (by kernel_rfl) rfl rfl rfl ?_
               refine cl ca59 (c_guidText _ _ _ _ (pcs (entA (pcs bs (k * 512) 16384) i) 0 16) (by have e := RB.of (b := q) (o := k * 512 + (128 * i + 0)) (n := 16) H (by omega); rw [← gtE (by decide) hi8]; exact e) rfl) rfl ?_
               rintro _ w33 ⟨rfl, F⟩
               replace R2 := R2.keep F
               replace H := H.keep F; replace O := O.keep F; clear F
               refine nl ?_
               refine then_n ?_
               refine ⟨H.subX, ?_⟩
               refine fk (i := 17) (by kernel_rfl) rfl rfl rfl ?_
               refine cl ca59 (c_guidText _ _ _ _ (pcs (entA (pcs bs (k * 512) 16384) i) 16 16) (by have e := RB.of (b := q) (o := k * 512 + (128 * i + 16)) (n := 16) H (by omega); rw [← gtE (by decide) hi8]; exact e) rfl) rfl ?_
               rintro _ w34 ⟨rfl, F⟩
               replace R2 := R2.keep F
               replace H := H.keep F; replace O := O.keep F; clear F
               refine nl ?_
               refine then_n ?_
               refine ⟨H.subX, ?_⟩
               refine fk (i := 20) (by kernel_rfl) rfl rfl rfl ?_
               refine cl ca58 (c_le _ q (k * 512 + (128 * i + 48)) 8 _ _ _ _ (H.look (b := q)) (by omega) (by decide)) rfl ?_
               rintro _ w35 ⟨rfl, F⟩
               replace R2 := R2.keep F
               replace H := H.keep F; replace O := O.keep F; clear F
               rw [leE (o := 48) (k := 8) (by decide) hi8]
               refine nl ?_
               refine then_n ?_
               refine ⟨H.subX, ?_⟩
               refine fk (i := 22) (by kernel_rfl) rfl rfl rfl ?_
               refine cl ca60 (c_textOf _ A2 36 cap2 (unE (entA (pcs bs (k * 512) 16384) i)) R2 (by decide) (unE_rng _)) rfl ?_
               rintro _ w36 ⟨rfl, F⟩
               replace H := H.keep F; replace O := O.keep F; clear F
               rw [nmB_up]
               refine nl ?_
               refine then_n ?_
               refine ⟨H.subX, ?_⟩
               refine tkbu (out := ?o4) (i := 23) rfl (by kernel_rfl) rfl (H.subX) ze54 bo54 ?f4 ?_
               case f4 =>
                refine FL.one (v := .int .i64 _) rfl pl54_0 rfl (by first | decide | simp) ?_
                refine FL.one (v := .int .u64 _) rfl pl54_1 rfl (by first | decide | simp) ?_
                refine FL.one (v := .int .u64 _) rfl pl54_2 rfl (by first | decide | simp) ?_
                refine FL.one (v := .int .u64 _) rfl pl54_3 rfl (by first | decide | simp) ?_
                refine FL.one (v := .string _) rfl pl54_4 rfl (by first | decide | simp) ?_
                refine FL.one (v := .string _) rfl pl54_6 rfl (by first | decide | simp) ?_
                refine FL.one (v := .int .u64 _) rfl pl54_7 rfl (by first | decide | simp) ?_
                refine FL.one (v := .string _) rfl pl54_5 rfl (by first | decide | simp) ?_
                exact FL.nil
               refine fk (i := 24) (by kernel_rfl) rfl rfl rfl ?_
               refine bsl (sz := 8) (out := ?o5) H Tryz.underlying22 ze54 sz54_8 (by decide) ?f5 rfl ?_
               case f5 =>
                refine FS.agg (vs := _) rfl rfl (by first | decide | simp) ?_
                exact FS.nil
               intro b4 w37 hb4 H1 F; replace O := O.new F hb4 H1.look; clear H H1 F; have H := O.sh
               refine nl ?_
               refine then_n ?_
               refine ⟨H.subX, ?_⟩
               refine fk (i := 25) (by kernel_rfl) rfl rfl rfl ?_
               refine apO (zs := [.int .i64 0, .int .u64 0, .int .u64 0, .int .u64 0, .string ⟨#[]⟩, .string ⟨#[]⟩, .string ⟨#[]⟩, .int .u64 0]) (gpE ((i : Int) + 1) (entA (pcs bs (k * 512) 16384) i)).cells O rfl rfl Tryz.underlying22 ri54 (by first | rfl | simp) (cells_look H.look) (List.all_eq_true.1 (GP.cells_one _)) (by simp) (by omega) (by unfold maxLen; omega) rfl ?_
               clear O H; intro D9 cp9 w38 O
               have H := O.sh
               refine nl ?_
               refine then_n ?_
               refine ⟨H.subX, ?_⟩
               refine tk (i := 26) rfl (by kernel_rfl) rfl (H.subX) (fun w' H => r_fa rfl fo24_0) ?_
               refine fb (i := 27) (by kernel_rfl) rfl rfl rfl ?_
               refine st (v := .slice _ _ _) H rfl rfl sc22 rfl (by show 0 + 0 < 5; decide) (by omega) ?_
               intro w95 H95 F95; replace O := O.put F95 H95.look; clear H H95 F95; have H := O.sh
               refine nl ?_
               refine then_n ?_
               refine dn (by kernel_rfl) ?_
               refine in_n ?_
               refine then_n ?_
               refine rg ?_
               refine add rfl rfl (by first | exact w_i64 (by omega) | exact w_i64 (rng_i64 _) | rfl) rfl ?_
               refine mv (v := .int .i64 _) rfl rfl ?_
               refine nl ?_
               refine loop_n ?_
               exact ⟨(i + 1, D9, cp9), (by (try dsimp only); omega), ⟨by omega, by rw [usedP_f hfe, List.flatMap_append, List.length_append]; exact O.subX⟩, (fCX (fN _)), agX⟩
           ·obtain rfl : i = 128 := by omega
            refine ex ?_
            refine then_e ?_
            refine loop_e ?_
            refine in_hit rfl ?_
            refine then_n ?_
            refine sq ?_
            refine rg ?_
            refine la (vs := gtCells D (usedP (pcs bs (k * 512) 16384) 128).length cap 512 (gT (pcs bs (a * 512 + 56) 16)) false false) H rfl ag24_5 rfl rfl rfl ?_
            refine sa (cs' := gtCells D (usedP (pcs bs (k * 512) 16384) 128).length cap 512 (gT (pcs bs (a * 512 + 56) 16)) false false) H rfl rfl ag24_5 rfl rfl (by show 0 + 5 ≤ 5; decide) (by omega) rfl ?_
            intro w72 H1 F; replace O := O.put F H1.look; clear H H1 F; have H := O.sh
            refine asg (v := .bool _) rfl rfl ?_
            refine nl ?_
            refine then_n ?_
            refine rt ?_
            refine finR_r ?_
            have hgT : gatB bs n a = true := by
             unfold gatB sigOk crcOk
             rw [hk, Int.toNat_natCast, decide_eq_true (p := (k : Int) < (n : Int)) (by omega), decide_eq_true (p := 32 ≤ (n : Int) - (k : Int)) (by omega)]
             simp_all [efiL]
            rw [hgT]
            exact ⟨[_, _], ⟨finC rfl (H.look (b := b1)) ag24_5, rfl, trivial⟩, _, rfl, fun _ => ⟨k, D, cap, by first | exact hk | rfl, by omega, rfl, O.sub (List.nil_sublist _)⟩, fun h => Bool.noConfusion h, H.fr⟩
end Go.Proofs.YthcaejaaalkglaaGreatDoor.X
/- Walks of functions, printed by a program of this claim. -/
namespace Go.Proofs.YthcaejaaalkglaaGreatDoor.X
set_option linter.unusedVariables false
set_option linter.unusedSimpArgs false
open Go Go.RowKit
namespace PF
theorem pl64_0 : placeOf Tryz.prog 64 0 = some (0, 1) := by kernel_rfl
theorem pl64_1 : placeOf Tryz.prog 64 1 = some (1, 1) := by kernel_rfl
theorem sz64_11 : sizeB Tryz.prog 64 11 = true := by kernel_rfl
end PF
open PF
set_option maxRecDepth 100000 in
set_option maxHeartbeats 1000000 in
theorem c_mbrDecode (w : World) (b n c : Nat) (T : TypeId) (fr : Nat × Nat) (ds : List UInt8) (hb : w.heap[b]? = some (.cells (Bs ds).toArray T fr)) (hn : 512 ≤ n ∧ n ≤ ds.length ∧ n ≤ c ∧ n ≤ 1000000000) (hs : sigB ds = true) (hf : flagsB ds) : Calls Tryz.prog 35 #[.slice (some ⟨b, 0, none⟩) n c] w (Ret fun v w' => v = .tuple #[.agg ((mpsOf ds).flatMap MP.cells).toArray, .bool true] ∧ Fr [] w w') := by
 refine enterR [.cell 2 65, .tmp 3] Tryz.func35 rfl rfl rfl rfl ?_
 have H := SH.ro1 hb
 have hsa := sig_at (ds := ds) (by omega)
 rw [hs] at hsa
 obtain ⟨hs1, hs2⟩ := of_decide_eq_true hsa.symm
 refine sq ?_
 refine rg ?_
 refine al H ze65 rfl ?_
 clear H; intro b1 w1 hb1 H _
 refine asg (v := .bool _) rfl rfl ?_
 refine nl ?_
 refine then_n ?_
 refine sq ?_
 refine rg ?_
 refine al H ze65 rfl ?_
 clear H; intro b2 w2 hb2 H _
 refine nl ?_
 refine then_n ?_
 refine sq ?_
 refine sq ?_
 refine rg ?_
 refine mv (v := .slice _ _ _) rfl rfl ?_
 refine lnS rfl Tryz.underlying30 rfl ?_
 refine lss rfl rfl rfl ?_
 refine mv (v := .bool _) rfl rfl ?_
 refine spF (t := 10) rfl (by omega) ?_
 refine gy rfl ?_
 refine mv (v := .slice _ _ _) rfl rfl ?_
 refine gy rfl ?_
 refine ia rfl rfl Tryz.underlying30 sz5_1 (by omega) rfl ?_
 refine gy rfl ?_
 (refine ldb H rfl sc5 (by omega) rfl ?_; intro hu1)
 refine gy rfl ?_
 refine neq rfl rfl rfl ?_
 refine pkF (v := .bool _) rfl rfl rfl ?_
 refine mv (v := .bool _) rfl rfl ?_
 refine spF (t := 16) rfl (fun h => h hs1) ?_
 refine gy rfl ?_
 refine mv (v := .slice _ _ _) rfl rfl ?_
 refine gy rfl ?_
 refine ia rfl rfl Tryz.underlying30 sz5_1 (by omega) rfl ?_
 refine gy rfl ?_
 (refine ldb H rfl sc5 (by omega) rfl ?_; intro hu2)
 refine gy rfl ?_
 refine neq rfl rfl rfl ?_
 refine pkF (v := .bool _) rfl rfl rfl ?_
 refine nl ?_
 refine then_n ?_
 refine cF rfl (fun h => h hs2) ?_
 refine sk ?_
 refine then_n ?_
 refine sq ?_
 refine sq ?_
 refine rg ?_
 refine mv (v := .int .i64 _) rfl rfl ?_
 refine nl ?_
 refine then_n ?_
 refine bk ?_
 refine lpM (α := Nat) [3, 5, 6, 23, 24, 25, 26, 27, 28, 29, 30, 31, 32, 33, 34, 35, 36, 37, 38, 39, 40, 41, 42, 43, 44, 45, 46, 47, 48, 49, 50, 51, 52, 53, 54, 55, 56, 57, 58, 59, 60, 61, 62, 63, 64, 65, 66, 67, 68, 69, 70, 71, 72, 73, 74, 75, 76, 77, 78, 79, 80, 81, 82, 83, 84] (fun i => [(23, .int .i64 (i : Int))]) (fun i w' => i ≤ 4 ∧ SH w [] w' [⟨b2, .cells ((arr4 (mpsOf ds) i).flatMap MP.cells).toArray 65 (0, 0), true⟩, ⟨b1, .cells ((List.replicate 4 MP.zero).flatMap MP.cells).toArray 65 (0, 0), true⟩, ⟨b, .cells (Bs ds).toArray T fr, false⟩]) (fun i => 4 - i) 0 ?_ (fCX (fN _)) ?_
 ·exact ⟨by omega, H⟩
 ·rintro i ρx w3 ⟨hi, H⟩
  refine sq ?_
  refine rg ?_
  refine lss rfl rfl rfl ?_
  refine nl ?_
  refine then_n ?_
  refine sq ?_
  refine cd rfl (fun hc2 => ?_) (fun hc2 => ?_)
  ·have hfi : ((ds.getD (446 + 16 * i + (0 : Int).toNat * 1) 0).toNat : Int) = 0 ∨ ((ds.getD (446 + 16 * i + (0 : Int).toNat * 1) 0).toNat : Int) = 128 := hf i (by omega)
   have hal : ((arr4 (mpsOf ds) i).flatMap MP.cells).length = 44 := by rw [flat_len MP.cells_len, arr4_len hi (by omega)]
   refine sk ?_
   refine then_n ?_
   refine sq ?_
   refine bk ?_
   refine sq ?_
   refine rg ?_
   refine mv (v := .int .i64 _) rfl rfl ?_
   refine asg (v := .int .i64 _) rfl rfl ?_
   refine nl ?_
   refine then_n ?_
   refine sq ?_
   refine rg ?_
   refine mv (v := .slice _ _ _) rfl rfl ?_
   refine mv (v := .int .i64 _) rfl rfl ?_
   refine mul rfl rfl (by first | exact w_i64 (by omega) | exact w_i64 (rng_i64 _) | rfl) rfl ?_
   refine add rfl rfl (by first | exact w_i64 (by omega) | exact w_i64 (rng_i64 _) | rfl) rfl ?_
   refine mv (v := .int .i64 _) rfl rfl ?_
   refine mul rfl rfl (by first | exact w_i64 (by omega) | exact w_i64 (rng_i64 _) | rfl) rfl ?_
   refine add rfl rfl (by first | exact w_i64 (by omega) | exact w_i64 (rng_i64 _) | rfl) rfl ?_
   refine sllhN (446 + 16 * i) (16) (c - (446 + 16 * i)) rfl rfl rfl Tryz.underlying30 sz5_1 (by omega) (by omega) rfl ?_
   refine asg (v := .slice _ _ _) rfl rfl ?_
   refine nl ?_
   refine then_n ?_
   refine sq ?_
   refine sq ?_
   refine rg ?_
   refine mv (v := .slice _ _ _) rfl rfl ?_
   refine ia rfl rfl Tryz.underlying30 sz5_1 (by omega) rfl ?_
   (refine ldb H rfl sc5 (by omega) rfl ?_; intro hu3)
   refine neq rfl rfl rfl ?_
   refine mv (v := .bool _) rfl rfl ?_
   refine spd (t := 38) rfl (fun hg3 => ?_) (fun hg3 => ?_)
   ·refine gy rfl ?_
    refine mv (v := .slice _ _ _) rfl rfl ?_
    refine gy rfl ?_
    refine ia rfl rfl Tryz.underlying30 sz5_1 (by omega) rfl ?_
    refine gy rfl ?_
    (refine ldb H rfl sc5 (by omega) rfl ?_; intro hu4)
    refine gy rfl ?_
    refine neq rfl rfl rfl ?_
    refine pkT (v := .bool _) rfl rfl rfl ?_
    refine nl ?_
    refine then_n ?_
    refine cd rfl (fun hc3 => ?_) (fun hc3 => ?_)
    ·omega
    ·refine sk ?_
     refine then_n ?_
     refine dr (by kernel_rfl) ?_
     have H := H.drew
     refine hold (fun w' => SH w [] w' [⟨b2, .cells ((arr4 (mpsOf ds) i).flatMap MP.cells).toArray 65 (0, 0), true⟩, ⟨b1, .cells ((List.replicate 4 MP.zero).flatMap MP.cells).toArray 65 (0, 0), true⟩, ⟨b, .cells (Bs ds).toArray T fr, false⟩]) [39] ?_
     refine tk (i := 0) rfl (by kernel_rfl) rfl (H.subX) (fun w' H => r_mv (v := .int .i64 _) rfl) ?_
     refine tk (i := 1) rfl (by kernel_rfl) rfl (H.subX) (fun w' H => r_mv (v := .int .i64 _) rfl) ?_
     refine tk (i := 2) rfl (by kernel_rfl) rfl (H.subX) (fun w' H => r_add rfl rfl (by first | exact w_i64 (by omega) | exact w_i64 (rng_i64 _) | rfl)) ?_
     refine tk (i := 3) rfl (by kernel_rfl) rfl (H.subX) (fun w' H => r_mv (v := .slice _ _ _) rfl) ?_
     refine tk (i := 4) rfl (by kernel_rfl) rfl (H.subX) (fun w' H => r_ia rfl rfl Tryz.underlying30 sz5_1 (by omega)) ?_
     refine tk (i := 5) rfl (by kernel_rfl) rfl (H.subX) (fun w' H => r_ldb H rfl sc5 (by omega)) ?_
     refine tk (i := 6) rfl (by kernel_rfl) rfl (H.subX) (fun w' H => r_eql rfl rfl) ?_
     refine tk (i := 7) rfl (by kernel_rfl) rfl (H.subX) (fun w' H => r_mv (v := .slice _ _ _) rfl) ?_
     refine tk (i := 8) rfl (by kernel_rfl) rfl (H.subX) (fun w' H => r_ia rfl rfl Tryz.underlying30 sz5_1 (by omega)) ?_
     refine tk (i := 9) rfl (by kernel_rfl) rfl (H.subX) (fun w' H => r_ldb H rfl sc5 (by omega)) ?_
     refine tk (i := 10) rfl (by kernel_rfl) rfl (H.subX) (fun w' H => r_mv (v := .slice _ _ _) rfl) ?_
     refine tk (i := 11) rfl (by kernel_rfl) rfl (H.subX) (fun w' H => r_sllh rfl rfl rfl Tryz.underlying30 sz5_1 (by first | trivial | omega | (simp; omega))) ?_
     refine tk (i := 14) rfl (by kernel_rfl) rfl (H.subX) (fun w' H => r_mv (v := .slice _ _ _) rfl) ?_
     refine tk (i := 15) rfl (by kernel_rfl) rfl (H.subX) (fun w' H => r_sllh rfl rfl rfl Tryz.underlying30 sz5_1 (by first | trivial | omega | (simp; omega))) ?_
     refine tk (i := 18) rfl (by kernel_rfl) rfl (H.subX) (fun w' H => r_mv (v := .slice _ _ _) rfl) ?_
     refine tk (i := 19) rfl (by kernel_rfl) rfl (H.subX) (fun w' H => r_ia rfl rfl Tryz.underlying30 sz5_1 (by omega)) ?_
     refine tk (i := 20) rfl (by kernel_rfl) rfl (H.subX) (fun w' H => r_ldb H rfl sc5 (by omega)) ?_
     refine tk (i := 21) rfl (by kernel_rfl) rfl (H.subX) (fun w' H => r_mv (v := .slice _ _ _) rfl) ?_
     refine tk (i := 22) rfl (by kernel_rfl) rfl (H.subX) (fun w' H => r_ia rfl rfl Tryz.underlying30 sz5_1 (by omega)) ?_
     refine tk (i := 23) rfl (by kernel_rfl) rfl (H.subX) (fun w' H => r_ldb H rfl sc5 (by omega)) ?_
     refine tk (i := 24) rfl (by kernel_rfl) rfl (H.subX) (fun w' H => r_mv (v := .slice _ _ _) rfl) ?_
     refine tk (i := 25) rfl (by kernel_rfl) rfl (H.subX) (fun w' H => r_ia rfl rfl Tryz.underlying30 sz5_1 (by omega)) ?_
     refine tk (i := 26) rfl (by kernel_rfl) rfl (H.subX) (fun w' H => r_ldb H rfl sc5 (by omega)) ?_
     refine tk (i := 27) rfl (by kernel_rfl) rfl (H.subX) (fun w' H => r_mv (v := .slice _ _ _) rfl) ?_
     refine tk (i := 28) rfl (by kernel_rfl) rfl (H.subX) (fun w' H => r_ia rfl rfl Tryz.underlying30 sz5_1 (by omega)) ?_
     refine tk (i := 29) rfl (by kernel_rfl) rfl (H.subX) (fun w' H => r_ldb H rfl sc5 (by omega)) ?_
     refine tk (i := 30) rfl (by kernel_rfl) rfl (H.subX) (fun w' H => r_mv (v := .slice _ _ _) rfl) ?_
     refine tk (i := 31) rfl (by kernel_rfl) rfl (H.subX) (fun w' H => r_ia rfl rfl Tryz.underlying30 sz5_1 (by omega)) ?_
     refine tk (i := 32) rfl (by kernel_rfl) rfl (H.subX) (fun w' H => r_ldb H rfl sc5 (by omega)) ?_
     refine tk (i := 33) rfl (by kernel_rfl) rfl (H.subX) (fun w' H => r_mv (v := .slice _ _ _) rfl) ?_
     refine tk (i := 34) rfl (by kernel_rfl) rfl (H.subX) (fun w' H => r_ia rfl rfl Tryz.underlying30 sz5_1 (by omega)) ?_
     refine tk (i := 35) rfl (by kernel_rfl) rfl (H.subX) (fun w' H => r_ldb H rfl sc5 (by omega)) ?_
     refine tkbu (out := ?o13) (i := 36) rfl (by kernel_rfl) rfl (H.subX) ze62 bo62 ?f13 ?_
     case f13 =>
      refine FL.one (v := .int .u8 _) rfl pl62_0 rfl (by first | decide | simp) ?_
      refine FL.one (v := .int .u8 _) rfl pl62_1 rfl (by first | decide | simp) ?_
      refine FL.one (v := .int .u8 _) rfl pl62_2 rfl (by first | decide | simp) ?_
      refine FL.one (v := .int .u8 _) rfl pl62_3 rfl (by first | decide | simp) ?_
      refine FL.one (v := .int .u8 _) rfl pl62_4 rfl (by first | decide | simp) ?_
      refine FL.one (v := .int .u8 _) rfl pl62_5 rfl (by first | decide | simp) ?_
      exact FL.nil
     refine fk (i := 12) (by kernel_rfl) rfl rfl rfl ?_
     refine cl ca58 (c_le _ _ _ _ _ _ _ _ H.look (by omega) (by decide)) rfl ?_
     rintro _ w4 ⟨rfl, F⟩
     replace H := H.keep F; clear F
     refine nl ?_
     refine then_n ?_
     refine ⟨H.subX, ?_⟩
     refine tk (i := 13) rfl (by kernel_rfl) rfl (H.subX) (fun w' H => r_cvi (c := leV ((ds.drop (446 + 16 * i + 8)).take 4)) rfl rfl Tryz.underlying58 (w_u32 (le4_rng _))) ?_
     refine fk (i := 16) (by kernel_rfl) rfl rfl rfl ?_
     refine cl ca58 (c_le _ _ _ _ _ _ _ _ H.look (by omega) (by decide)) rfl ?_
     rintro _ w5 ⟨rfl, F⟩
     replace H := H.keep F; clear F
     refine nl ?_
     refine then_n ?_
     refine ⟨H.subX, ?_⟩
     refine tk (i := 17) rfl (by kernel_rfl) rfl (H.subX) (fun w' H => r_cvi (c := leV ((ds.drop (446 + 16 * i + 12)).take 4)) rfl rfl Tryz.underlying58 (w_u32 (le4_rng _))) ?_
     refine tkbu (out := ?o14) (i := 37) rfl (by kernel_rfl) rfl (H.subX) ze64 bo64 ?f14 ?_
     case f14 =>
      refine FL.one (v := .int .i64 _) rfl pl64_0 rfl (by first | decide | simp) ?_
      refine FL.one (v := .bool _) rfl pl64_1 rfl (by first | decide | simp) ?_
      refine FL.one (v := .int .u8 _) rfl pl64_2 rfl (by first | decide | simp) ?_
      refine FL.one (v := .int .u32 _) rfl pl64_3 rfl (by first | decide | simp) ?_
      refine FL.one (v := .int .u32 _) rfl pl64_4 rfl (by first | decide | simp) ?_
      refine FL.agg rfl pl64_5 rfl (by first | decide | simp) ?_
      exact FL.nil
     refine tk (i := 38) rfl (by kernel_rfl) rfl (H.subX) (fun w' H => r_iy rfl rfl Tryz.underlying65 sz64_11 (by omega)) ?_
     refine fb (i := 39) (by kernel_rfl) rfl rfl rfl ?_
     refine sa (vs := (mpAt ds (446 + 16 * i) (i + 1)).cells) (cs' := (arr4 (mpsOf ds) (i + 1)).flatMap MP.cells) H rfl rfl ag64_11 rfl rfl (by rw [hal]; omega) (by omega) (by rw [show 0 + (i : Int).toNat * 11 = i * 11 by omega]; exact arr4_put (mpsOf_get (by omega)) (by omega)) ?_
     clear H; intro w90 H _
     refine nl ?_
     refine then_n ?_
     refine dn (by kernel_rfl) ?_
     refine in_n ?_
     refine then_n ?_
     refine rg ?_
     refine add rfl rfl (by first | exact w_i64 (by omega) | exact w_i64 (rng_i64 _) | rfl) rfl ?_
     refine mv (v := .int .i64 _) rfl rfl ?_
     refine nl ?_
     refine loop_n ?_
     exact ⟨i + 1, (by (try dsimp only); omega), ⟨by omega, H⟩, (fCX (fN _)), agX⟩
   ·refine gn rfl rfl ?_
    refine gn rfl rfl ?_
    refine gn rfl rfl ?_
    refine gn rfl rfl ?_
    refine pkF (v := .bool _) rfl rfl rfl ?_
    refine nl ?_
    refine then_n ?_
    refine cbF rfl rfl ?_
    refine sk ?_
    refine then_n ?_
    refine dr (by kernel_rfl) ?_
    have H := H.drew
    refine hold (fun w' => SH w [] w' [⟨b2, .cells ((arr4 (mpsOf ds) i).flatMap MP.cells).toArray 65 (0, 0), true⟩, ⟨b1, .cells ((List.replicate 4 MP.zero).flatMap MP.cells).toArray 65 (0, 0), true⟩, ⟨b, .cells (Bs ds).toArray T fr, false⟩]) [39] ?_
    refine tk (i := 0) rfl (by kernel_rfl) rfl (H.subX) (fun w' H => r_mv (v := .int .i64 _) rfl) ?_
    refine tk (i := 1) rfl (by kernel_rfl) rfl (H.subX) (fun w' H => r_mv (v := .int .i64 _) rfl) ?_
    refine tk (i := 2) rfl (by kernel_rfl) rfl (H.subX) (fun w' H => r_add rfl rfl (by first | exact w_i64 (by omega) | exact w_i64 (rng_i64 _) | rfl)) ?_
    refine tk (i := 3) rfl (by kernel_rfl) rfl (H.subX) (fun w' H => r_mv (v := .slice _ _ _) rfl) ?_
    refine tk (i := 4) rfl (by kernel_rfl) rfl (H.subX) (fun w' H => r_ia rfl rfl Tryz.underlying30 sz5_1 (by omega)) ?_
    refine tk (i := 5) rfl (by kernel_rfl) rfl (H.subX) (fun w' H => r_ldb H rfl sc5 (by omega)) ?_
    refine tk (i := 6) rfl (by kernel_rfl) rfl (H.subX) (fun w' H => r_eql rfl rfl) ?_
    refine tk (i := 7) rfl (by kernel_rfl) rfl (H.subX) (fun w' H => r_mv (v := .slice _ _ _) rfl) ?_
    refine tk (i := 8) rfl (by kernel_rfl) rfl (H.subX) (fun w' H => r_ia rfl rfl Tryz.underlying30 sz5_1 (by omega)) ?_
    refine tk (i := 9) rfl (by kernel_rfl) rfl (H.subX) (fun w' H => r_ldb H rfl sc5 (by omega)) ?_
    refine tk (i := 10) rfl (by kernel_rfl) rfl (H.subX) (fun w' H => r_mv (v := .slice _ _ _) rfl) ?_
    refine tk (i := 11) rfl (by kernel_rfl) rfl (H.subX) (fun w' H => r_sllh rfl rfl rfl Tryz.underlying30 sz5_1 (by first | trivial | omega | (simp; omega))) ?_
    refine tk (i := 14) rfl (by kernel_rfl) rfl (H.subX) (fun w' H => r_mv (v := .slice _ _ _) rfl) ?_
    refine tk (i := 15) rfl (by kernel_rfl) rfl (H.subX) (fun w' H => r_sllh rfl rfl rfl Tryz.underlying30 sz5_1 (by first | trivial | omega | (simp; omega))) ?_
    refine tk (i := 18) rfl (by kernel_rfl) rfl (H.subX) (fun w' H => r_mv (v := .slice _ _ _) rfl) ?_
    refine tk (i := 19) rfl (by kernel_rfl) rfl (H.subX) (fun w' H => r_ia rfl rfl Tryz.underlying30 sz5_1 (by omega)) ?_
    refine tk (i := 20) rfl (by kernel_rfl) rfl (H.subX) (fun w' H => r_ldb H rfl sc5 (by omega)) ?_
    refine tk (i := 21) rfl (by kernel_rfl) rfl (H.subX) (fun w' H => r_mv (v := .slice _ _ _) rfl) ?_
    refine tk (i := 22) rfl (by kernel_rfl) rfl (H.subX) (fun w' H => r_ia rfl rfl Tryz.underlying30 sz5_1 (by omega)) ?_
    refine tk (i := 23) rfl (by kernel_rfl) rfl (H.subX) (fun w' H => r_ldb H rfl sc5 (by omega)) ?_
    refine tk (i := 24) rfl (by kernel_rfl) rfl (H.subX) (fun w' H => r_mv (v := .slice _ _ _) rfl) ?_
    refine tk (i := 25) rfl (by kernel_rfl) rfl (H.subX) (fun w' H => r_ia rfl rfl Tryz.underlying30 sz5_1 (by omega)) ?_
    refine tk (i := 26) rfl (by kernel_rfl) rfl (H.subX) (fun w' H => r_ldb H rfl sc5 (by omega)) ?_
    refine tk (i := 27) rfl (by kernel_rfl) rfl (H.subX) (fun w' H => r_mv (v := .slice _ _ _) rfl) ?_
    refine tk (i := 28) rfl (by kernel_rfl) rfl (H.subX) (fun w' H => r_ia rfl rfl Tryz.underlying30 sz5_1 (by omega)) ?_
    refine tk (i := 29) rfl (by kernel_rfl) rfl (H.subX) (fun w' H => r_ldb H rfl sc5 (by omega)) ?_
    refine tk (i := 30) rfl (by kernel_rfl) rfl (H.subX) (fun w' H => r_mv (v := .slice _ _ _) rfl) ?_
    refine tk (i := 31) rfl (by kernel_rfl) rfl (H.subX) (fun w' H => r_ia rfl rfl Tryz.underlying30 sz5_1 (by omega)) ?_
    refine tk (i := 32) rfl (by kernel_rfl) rfl (H.subX) (fun w' H => r_ldb H rfl sc5 (by omega)) ?_
    refine tk (i := 33) rfl (by kernel_rfl) rfl (H.subX) (fun w' H => r_mv (v := .slice _ _ _) rfl) ?_
    refine tk (i := 34) rfl (by kernel_rfl) rfl (H.subX) (fun w' H => r_ia rfl rfl Tryz.underlying30 sz5_1 (by omega)) ?_
    refine tk (i := 35) rfl (by kernel_rfl) rfl (H.subX) (fun w' H => r_ldb H rfl sc5 (by omega)) ?_
    refine tkbu (out := ?o23) (i := 36) rfl (by kernel_rfl) rfl (H.subX) ze62 bo62 ?f23 ?_
    case f23 =>
     refine FL.one (v := .int .u8 _) rfl pl62_0 rfl (by first | decide | simp) ?_
     refine FL.one (v := .int .u8 _) rfl pl62_1 rfl (by first | decide | simp) ?_
     refine FL.one (v := .int .u8 _) rfl pl62_2 rfl (by first | decide | simp) ?_
     refine FL.one (v := .int .u8 _) rfl pl62_3 rfl (by first | decide | simp) ?_
     refine FL.one (v := .int .u8 _) rfl pl62_4 rfl (by first | decide | simp) ?_
     refine FL.one (v := .int .u8 _) rfl pl62_5 rfl (by first | decide | simp) ?_
     exact FL.nil
    refine fk (i := 12) (by kernel_rfl) rfl rfl rfl ?_
    refine cl ca58 (c_le _ _ _ _ _ _ _ _ H.look (by omega) (by decide)) rfl ?_
    rintro _ w6 ⟨rfl, F⟩
    replace H := H.keep F; clear F
    refine nl ?_
    refine then_n ?_
    refine ⟨H.subX, ?_⟩
    refine tk (i := 13) rfl (by kernel_rfl) rfl (H.subX) (fun w' H => r_cvi (c := leV ((ds.drop (446 + 16 * i + 8)).take 4)) rfl rfl Tryz.underlying58 (w_u32 (le4_rng _))) ?_
    refine fk (i := 16) (by kernel_rfl) rfl rfl rfl ?_
    refine cl ca58 (c_le _ _ _ _ _ _ _ _ H.look (by omega) (by decide)) rfl ?_
    rintro _ w7 ⟨rfl, F⟩
    replace H := H.keep F; clear F
    refine nl ?_
    refine then_n ?_
    refine ⟨H.subX, ?_⟩
    refine tk (i := 17) rfl (by kernel_rfl) rfl (H.subX) (fun w' H => r_cvi (c := leV ((ds.drop (446 + 16 * i + 12)).take 4)) rfl rfl Tryz.underlying58 (w_u32 (le4_rng _))) ?_
    refine tkbu (out := ?o24) (i := 37) rfl (by kernel_rfl) rfl (H.subX) ze64 bo64 ?f24 ?_
    case f24 =>
     refine FL.one (v := .int .i64 _) rfl pl64_0 rfl (by first | decide | simp) ?_
     refine FL.one (v := .bool _) rfl pl64_1 rfl (by first | decide | simp) ?_
     refine FL.one (v := .int .u8 _) rfl pl64_2 rfl (by first | decide | simp) ?_
     refine FL.one (v := .int .u32 _) rfl pl64_3 rfl (by first | decide | simp) ?_
     refine FL.one (v := .int .u32 _) rfl pl64_4 rfl (by first | decide | simp) ?_
     refine FL.agg rfl pl64_5 rfl (by first | decide | simp) ?_
     exact FL.nil
    refine tk (i := 38) rfl (by kernel_rfl) rfl (H.subX) (fun w' H => r_iy rfl rfl Tryz.underlying65 sz64_11 (by omega)) ?_
    refine fb (i := 39) (by kernel_rfl) rfl rfl rfl ?_
    refine sa (vs := (mpAt ds (446 + 16 * i) (i + 1)).cells) (cs' := (arr4 (mpsOf ds) (i + 1)).flatMap MP.cells) H rfl rfl ag64_11 rfl rfl (by rw [hal]; omega) (by omega) (by rw [show 0 + (i : Int).toNat * 11 = i * 11 by omega]; exact arr4_put (mpsOf_get (by omega)) (by omega)) ?_
    clear H; intro w90 H _
    refine nl ?_
    refine then_n ?_
    refine dn (by kernel_rfl) ?_
    refine in_n ?_
    refine then_n ?_
    refine rg ?_
    refine add rfl rfl (by first | exact w_i64 (by omega) | exact w_i64 (rng_i64 _) | rfl) rfl ?_
    refine mv (v := .int .i64 _) rfl rfl ?_
    refine nl ?_
    refine loop_n ?_
    exact ⟨i + 1, (by (try dsimp only); omega), ⟨by omega, H⟩, (fCX (fN _)), agX⟩
  ·obtain rfl : i = 4 := by omega
   have hfin : ((arr4 (mpsOf ds) 4).flatMap MP.cells).take 44 = (mpsOf ds).flatMap MP.cells := rfl
   refine ex ?_
   refine then_e ?_
   refine loop_e ?_
   refine in_hit rfl ?_
   refine then_n ?_
   refine sq ?_
   refine rg ?_
   refine la (vs := (mpsOf ds).flatMap MP.cells) H rfl ag65_44 rfl (by rw [List.drop_zero]; exact hfin) rfl ?_
   refine sa (cs' := (mpsOf ds).flatMap MP.cells) H rfl rfl ag65_44 rfl (List.all_eq_true.2 mp_one) (by decide) (by omega) (List.append_nil _) ?_
   clear H; intro w91 H _
   refine asg (v := .bool _) rfl rfl ?_
   refine nl ?_
   refine then_n ?_
   refine rt ?_
   refine finR_r ?_
   exact ⟨[_, _], ⟨finC rfl (H.look (b := b1)) ag65_44, rfl, trivial⟩, rfl, H.fr⟩
end Go.Proofs.YthcaejaaalkglaaGreatDoor.X
/- Walks of functions, printed by a program of this claim. -/
namespace Go.Proofs.YthcaejaaalkglaaGreatDoor.X
set_option linter.unusedVariables false
set_option linter.unusedSimpArgs false
open Go Go.RowKit
namespace PF
theorem ca34 : callable Tryz.prog 34 = true := by kernel_rfl
theorem ca35 : callable Tryz.prog 35 = true := by kernel_rfl
end PF
open PF
set_option maxRecDepth 100000 in
set_option maxHeartbeats 2000000 in
theorem c_gptDecode (w : World) (q n c : Nat) (T : TypeId) (fr : Nat × Nat) (bs : List UInt8) (hb : w.heap[q]? = some (.cells (Bs bs).toArray T fr)) (hn : 80 ≤ n ∧ n ≤ 1000000) (hl : n * 512 ≤ bs.length) (hc : n * 512 ≤ c) (hsg : sigB bs = true) (hfl : flagsB bs) : Calls Tryz.prog 14 #[.slice (some ⟨q, 0, none⟩) (n * 512) c, .int .i64 512] w (Ret fun v w' => ∃ D m cap s g X a rb b, v = .tuple #[.agg (gtCells D m cap s g (b && decide (((bs.getD 450 0).toNat : Int) = 238)) rb).toArray, .bool b] ∧ OR 54 8 w [] w' [] D m cap X ∧ ((gatB bs n 1 = true ∧ a = 1 ∧ rb = false) ∨ (gatB bs n 1 = false ∧ a = n - 1 ∧ rb = b)) ∧ b = gatB bs n a ∧ GatIs bs n a D m cap s g X) := by
 refine enterR [.cell 4 24, .tmp 5] Tryz.func14 rfl rfl rfl rfl ?_
 have H := SH.ro1 hb
 refine sq ?_
 refine rg ?_
 refine al H ze24 rfl ?_
 clear H; intro b1 w1 hb1 H _
 refine asg (v := .bool _) rfl rfl ?_
 refine nl ?_
 refine then_n ?_
 refine sq ?_
 refine rg ?_
 refine mv (v := .slice _ _ _) rfl rfl ?_
 refine mv (v := .int .i64 _) rfl rfl ?_
 refine cl ca34 (c_gptAt _ q n c 1 T fr bs (H.look (b := q)) hn hl hc (by omega)) rfl ?_
 rintro _ w2 ⟨v1, rfl, r1, r2, FR⟩
 obtain ⟨D1, m1, cap1, s1, g1, X1, rfl, O1, hI1⟩ := gat_is r1 r2 FR
 clear r1 r2 FR
 replace O1 := O1.joinN H (by simp)
 simp only [List.append_nil] at O1
 replace H := O1.sh
 refine mv (v := .tuple _) rfl rfl ?_
 refine xt rfl rfl rfl ?_
 refine xt rfl rfl rfl ?_
 refine al H ze24 rfl ?_
 intro b2 w3 hb2 H1 F; replace O1 := O1.new F hb2 H1.look; clear H H1 F; have H := O1.sh
 refine sa (cs' := gtCells D1 m1 cap1 s1 g1 false false) H rfl rfl ag24_5 rfl rfl (by show 0 + 5 ≤ 5; decide) (by omega) rfl ?_
 intro w91 H91 F91; replace O1 := O1.put F91 H91.look; clear H H91 F91; have H := O1.sh
 refine asg (v := .bool _) rfl rfl ?_
 refine nl ?_
 refine then_n ?_
 refine ctM (α := Option Addr × Nat × Nat × Int × List UInt8 × List Value × Nat × Bool × Bool) [7, 16, 17, 18, 19, 20, 21, 22, 23, 24, 25, 26, 27, 28, 29, 30, 31] (fun (D, m, cap, s, g, X, a, rb, b) => [(7, .bool b)]) (fun (D, m, cap, s, g, X, a, rb, b) w' => OR 54 8 w [] w' [⟨b2, .cells (gtCells D m cap s g false rb).toArray 24 (0, 0), true⟩, ⟨b1, .cells (gtCells none 0 0 0 [] false false).toArray 24 (0, 0), true⟩, ⟨q, .cells (Bs bs).toArray T fr, false⟩] D m cap X ∧ ((gatB bs n 1 = true ∧ a = 1 ∧ rb = false) ∨ (gatB bs n 1 = false ∧ a = n - 1 ∧ rb = b)) ∧ b = gatB bs n a ∧ GatIs bs n a D m cap s g X) ?_ ?_
 ·refine sq ?_
  refine rg ?_
  refine mv (v := .bool _) rfl rfl ?_
  refine unot rfl rfl ?_
  refine nl ?_
  refine then_n ?_
  refine cn rfl (fun hc1 => ?_) (fun hc1 => ?_)
  ·refine sq ?_
   refine rg ?_
   refine mv (v := .slice _ _ _) rfl rfl ?_
   refine mv (v := .int .i64 _) rfl rfl ?_
   refine mv (v := .slice _ _ _) rfl rfl ?_
   refine lnS rfl Tryz.underlying30 rfl ?_
   refine mv (v := .int .i64 _) rfl rfl ?_
   refine quo (c := (n : Int)) rfl rfl (by omega) (by omega) (by rw [w_i64 (by omega)]; omega) rfl ?_
   refine cvi rfl rfl Tryz.underlying28 (by first | exact w_u64 (by omega) | exact w_u64 (rng_u64 _) | exact m_u64 _) rfl ?_
   refine sub (c := ((n - 1 : Nat) : Int)) rfl rfl (by rw [w_u64 (by omega)]; omega) rfl ?_
   refine cl ca34 (c_gptAt _ q n c (n - 1) T fr bs (H.look (b := q)) hn hl hc (by omega)) rfl ?_
   rintro _ w4 ⟨v1, rfl, r1, r2, FR⟩
   obtain ⟨D2, m2, cap2, s2, g2, X2, rfl, O2, hI2⟩ := gat_is r1 r2 FR
   clear r1 r2 FR
   replace O2 := O2.joinN H (by simp)
   simp only [List.append_nil] at O2
   replace H := O2.sh
   refine mv (v := .tuple _) rfl rfl ?_
   refine xt rfl rfl rfl ?_
   refine xt rfl rfl rfl ?_
   refine sa (cs' := gtCells D2 m2 cap2 s2 g2 false false) H rfl rfl ag24_5 rfl rfl (by show 0 + 5 ≤ 5; decide) (by omega) rfl ?_
   intro w91 H91 F91; replace O2 := O2.put F91 H91.look; clear H H91 F91; have H := O2.sh
   refine asg (v := .bool _) rfl rfl ?_
   refine nl ?_
   refine then_n ?_
   refine rg ?_
   refine mv (v := .bool _) rfl rfl ?_
   refine fa rfl fo24_4 rfl ?_
   refine st (v := .bool _) H rfl rfl sc4 rfl (by show 0 + 4 < 5; decide) (by omega) ?_
   intro w92 H92 F92; replace O2 := O2.put F92 H92.look; clear H H92 F92; have H := O2.sh
   refine nl ?_
   refine then_n ?_
   exact ⟨(D2, m2, cap2, s2, g2, X2, n - 1, _, _), ⟨O2.subX, .inr ⟨by simpa using hc1, rfl, rfl⟩, rfl, hI2⟩, (fCX (fN _)), agX⟩
  ·refine sk ?_
   refine then_n ?_
   exact ⟨(D1, m1, cap1, s1, g1, X1, 1, false, _), ⟨O1.subX, .inl ⟨by simpa using hc1, rfl, rfl⟩, rfl, hI1⟩, (fCX (fN _)), agX⟩
 ·rintro ⟨D, m, cap, s, g, X, a, rb, b⟩ ρx w5 ⟨O, hcs, hbb, hI⟩
  have H := O.sh
  refine sq ?_
  refine sq ?_
  refine rg ?_
  refine mv (v := .bool _) rfl rfl ?_
  refine nl ?_
  refine then_n ?_
  refine cn rfl (fun hc2 => ?_) (fun hc2 => ?_)
  ·refine sq ?_
   refine rg ?_
   refine mv (v := .slice _ _ _) rfl rfl ?_
   refine cl ca35 (c_mbrDecode _ q _ c T fr bs (H.look (b := q)) ⟨by omega, hl, hc, by omega⟩ hsg hfl) rfl ?_
   rintro _ w6 ⟨rfl, F⟩
   replace H := H.keep F; replace O := O.keep F; clear F
   refine mv (v := .tuple _) rfl rfl ?_
   refine xt rfl rfl rfl ?_
   refine xt rfl rfl rfl ?_
   refine al H ze65 rfl ?_
   intro b3 w7 hb3 H1 F; replace O := O.new F hb3 H1.look; clear H H1 F; have H := O.sh
   refine sa H rfl rfl ag65_44 rfl rfl (by decide) (by omega) rfl ?_
   intro w8 H1 F; replace O := O.put F H1.look; clear H H1 F; have H := O.sh
   refine asg (v := .bool _) rfl rfl ?_
   refine nl ?_
   refine then_n ?_
   refine rg ?_
   refine mv (v := .bool _) rfl rfl ?_
   refine mv (v := .bool _) rfl rfl ?_
   refine spL (t := 39) (b := true) rfl ?_
   refine gy rfl ?_
   refine iy rfl rfl Tryz.underlying65 sz64_11 (by omega) rfl ?_
   refine gy rfl ?_
   refine fa rfl fo64_2 rfl ?_
   refine gy rfl ?_
   refine ld H rfl sc5 rfl rfl ?_
   refine gy rfl ?_
   refine eql rfl rfl rfl ?_
   refine pkT (v := .bool _) rfl rfl rfl ?_
   refine fa rfl fo24_3 rfl ?_
   refine st (v := .bool _) H rfl rfl sc4 rfl (by show 0 + 3 < 5; decide) (by omega) ?_
   intro w93 H93 F93; replace O := O.put F93 H93.look; clear H H93 F93; have H := O.sh
   refine nl ?_
   refine then_n ?_
   refine sq ?_
   refine rg ?_
   refine la H rfl ag24_5 rfl rfl rfl ?_
   refine mv (v := .bool _) rfl rfl ?_
   refine sa H rfl rfl ag24_5 rfl rfl (by show 0 + 5 ≤ 5; decide) (by omega) rfl ?_
   intro w94 H94 F94; replace O := O.put F94 H94.look; clear H H94 F94; have H := O.sh
   refine asg (v := .bool _) rfl rfl ?_
   refine nl ?_
   refine then_n ?_
   refine rt ?_
   refine finR_r ?_
   subst hc2
   exact ⟨[_, _], ⟨finC rfl (H.look (b := b1)) ag24_5, rfl, trivial⟩, D, m, cap, s, g, X, a, rb, true, rfl, O.sub (List.nil_sublist _), hcs, hbb, hI⟩
  ·refine sk ?_
   refine then_n ?_
   refine sq ?_
   refine rg ?_
   refine la H rfl ag24_5 rfl rfl rfl ?_
   refine mv (v := .bool _) rfl rfl ?_
   refine sa H rfl rfl ag24_5 rfl rfl (by show 0 + 5 ≤ 5; decide) (by omega) rfl ?_
   intro w94 H94 F94; replace O := O.put F94 H94.look; clear H H94 F94; have H := O.sh
   refine asg (v := .bool _) rfl rfl ?_
   refine nl ?_
   refine then_n ?_
   refine rt ?_
   refine finR_r ?_
   obtain rfl : b = false := by simpa using hc2
   exact ⟨[_, _], ⟨finC rfl (H.look (b := b1)) ag24_5, rfl, trivial⟩, D, m, cap, s, g, X, a, rb, false, rfl, O.sub (List.nil_sublist _), hcs, hbb, hI⟩
end Go.Proofs.YthcaejaaalkglaaGreatDoor.X
/- A disk on which a table stands, as the specification reads it. -/
namespace Go.Proofs.YthcaejaaalkglaaGreatDoor.X
set_option linter.unusedVariables false
open Go Go.RowKit
theorem pcs_app {D Z : List UInt8} {o k : Nat} (h : o + k ≤ D.length) : pcs (D ++ Z) o k = pcs D o k := by
 unfold pcs
 rw [List.drop_append_of_le_length (by omega), List.take_append_of_le_length (by rw [List.length_drop]; omega)]
theorem fld_app {D Z : List UInt8} {o k : Nat} (h : o + k ≤ D.length) : fld (D ++ Z) o k = fld D o k := by unfold fld; rw [pcs_app h]
theorem hdr_app {D Z : List UInt8} {A : Nat} (h : A + 92 ≤ D.length) : hdrGood (D ++ Z) A = hdrGood D A := by
 unfold hdrGood sigOk crcOk
 rw [pcs_app (by omega), pcs_app (by omega), pcs_app (by omega), pcs_app (by omega), pcs_app (by omega), fld_app (by omega)]
theorem gat_of {bs : List UInt8} {n a k : Nat} (h1 : hdrGood bs (a * 512) = true) (h2 : fld bs (a * 512 + 24) 8 = (a : Int)) (h3 : fld bs (a * 512 + 84) 4 = 128) (h4 : fld bs (a * 512 + 80) 4 = 128) (h5 : fld bs (a * 512 + 72) 8 = (k : Int)) (h6 : k + 32 ≤ n) (h7 : crc32 (pcs bs (k * 512) 16384) = fld bs (a * 512 + 88) 4) : gatB bs n a = true := by
 unfold hdrGood at h1
 simp only [Bool.and_eq_true, decide_eq_true_eq] at h1
 obtain ⟨⟨⟨⟨b1, b2⟩, b3⟩, b4⟩, b5⟩ := h1
 have b6 : fld bs (a * 512 + 12) 4 = 92 := by unfold fld; rw [b3]; decide
 unfold gatB
 rw [b1, b5, h2, h3, h4, h5, b6, Int.toNat_natCast, h7, decide_eq_true (p := (k : Int) < (n : Int)) (by omega), decide_eq_true (p := 32 ≤ (n : Int) - (k : Int)) (by omega)]
 simp
theorem gat_sig {bs : List UInt8} {n a : Nat} (h : sigOk bs (a * 512) = false) : gatB bs n a = false := by
 unfold gatB; rw [h]; rfl
theorem prot_mbr {bs : List UInt8} {m : Int} (hl : 512 ≤ bs.length) (h : protB (pcs bs 0 512) m = true) : sigB bs = true ∧ flagsB bs ∧ ((bs.getD 450 0).toNat : Int) = 238 := by
 have hg : ∀ j, j < 512 → (pcs bs 0 512).getD j 0 = bs.getD j 0 := fun j hj => by
  unfold pcs
  simp [List.getD, hj]
 unfold protB at h
 simp only [Bool.and_eq_true, decide_eq_true_eq] at h
 obtain ⟨⟨⟨⟨⟨b1, b2⟩, b3⟩, b4⟩, b5⟩, b6⟩ := h
 rw [hg _ (by decide)] at b3 b4
 refine ⟨?_, ?_, by omega⟩
 ·rw [pcs0 (by decide)] at b1
  exact decide_eq_true b1
 ·intro i hi
  left
  rcases i with _ | i
  ·simpa using congrArg (Nat.cast (R := Int)) b3
  ·have b7 := List.all_eq_true.1 b2 i (by simp; omega)
   have b8 := of_decide_eq_true b7 0 (by rw [pcs_len (by rw [pcs_len (by omega)]; omega)]; decide)
   rw [pcs0 (by omega)] at b8
   have e : (pcs bs (462 + 16 * i) 16).getD 0 0 = bs.getD (462 + 16 * i) 0 := by
    unfold pcs
    simp [List.getD]
   rw [e] at b8
   rw [show 446 + 16 * (i + 1) = 462 + 16 * i by omega, b8]; rfl
section st
variable {D Z : List UInt8} {n : Nat} {g : List UInt8} {ps : List GP}
theorem Stands.gat (S : Stands D n g ps) (hn : 80 ≤ n ∧ n ≤ 1000000) : gatB (D ++ Z) n 1 = true ∧ fld (D ++ Z) (1 * 512 + 72) 8 = ((2 : Nat) : Int) ∧ pcs (D ++ Z) (2 * 512) 16384 = arrB ps ∧ pcs (D ++ Z) (1 * 512 + 56) 16 = gB g := by
 have hl := S.len
 have a1 : pcs (D ++ Z) (2 * 512) 16384 = arrB ps := by rw [pcs_app (by omega)]; exact S.a1
 refine ⟨gat_of (k := 2) (by rw [hdr_app (by omega)]; exact S.g1) (by rw [fld_app (by omega)]; exact S.m1) (by rw [fld_app (by omega)]; exact S.f1.2.2) (by rw [fld_app (by omega)]; exact S.f1.2.1) (by rw [fld_app (by omega)]; exact S.f1.1) (by omega) (by rw [a1, fld_app (by omega)]; exact S.c1.symm), by rw [fld_app (by omega)]; exact S.f1.1, a1, by rw [pcs_app (by omega)]; exact S.u1⟩
theorem Stands.mbr (S : Stands D n g ps) (hn : 80 ≤ n ∧ n ≤ 1000000) : sigB (D ++ Z) = true ∧ flagsB (D ++ Z) ∧ (((D ++ Z).getD 450 0).toNat : Int) = 238 := by
 have hl := S.len
 exact prot_mbr (m := (n : Int) - 1) (by rw [List.length_append]; omega) (by rw [pcs_app (by omega)]; exact S.pr)
theorem Stands.gat2 (S : Stands D n g ps) (hn : 80 ≤ n ∧ n ≤ 1000000) : gatB ((D ++ Z).set 512 0) n 1 = false ∧ gatB ((D ++ Z).set 512 0) n (n - 1) = true ∧ fld ((D ++ Z).set 512 0) ((n - 1) * 512 + 72) 8 = ((n - 33 : Nat) : Int) ∧ pcs ((D ++ Z).set 512 0) ((n - 33) * 512) 16384 = arrB ps ∧ pcs ((D ++ Z).set 512 0) ((n - 1) * 512 + 56) 16 = gB g := by
 have hl := S.len
 have e5 : 512 * (n - 1) = (n - 1) * 512 := Nat.mul_comm ..
 have e6 : 512 * (n - 33) = (n - 33) * 512 := Nat.mul_comm ..
 have g2 := S.g2; have m2 := S.m2; have f2 := S.f2; have c2 := S.c2; have a2 := S.a2; have u2 := S.u2
 rw [e5] at g2 m2 f2 c2 u2
 rw [e6] at a2
 have a1 : pcs ((D ++ Z).set 512 0) ((n - 33) * 512) 16384 = arrB ps := by rw [pcs_set_out (by omega), pcs_app (by omega)]; exact a2
 have F : ∀ o k, o + k ≤ 92 → fld ((D ++ Z).set 512 0) ((n - 1) * 512 + o) k = fld D ((n - 1) * 512 + o) k := fun o k h => by rw [fld_set_out (by omega), fld_app (by omega)]
 refine ⟨gat_sig ?_, gat_of (k := n - 33) (by rw [(hdr_out (by omega)).1, hdr_app (by omega)]; exact g2) (by rw [F 24 8 (by decide), m2]; omega) (by rw [F 84 4 (by decide)]; exact f2.2.2) (by rw [F 80 4 (by decide)]; exact f2.2.1) (by rw [F 72 8 (by decide)]; exact f2.1) (by omega) (by rw [a1, F 88 4 (by decide)]; exact c2.symm), by rw [F 72 8 (by decide)]; exact f2.1, a1, by rw [pcs_set_out (by omega), pcs_app (by omega)]; exact u2⟩
 unfold sigOk
 refine decide_eq_false fun h => ?_
 have h0 := congrArg (fun l => l[0]?) h
 have hl9 : 512 < (D ++ Z).length := by rw [List.length_append]; omega
 simp [pcs, efiL, List.getElem?_set] at h0
theorem Stands.mbr2 (S : Stands D n g ps) (hn : 80 ≤ n ∧ n ≤ 1000000) : sigB ((D ++ Z).set 512 0) = true ∧ flagsB ((D ++ Z).set 512 0) ∧ ((((D ++ Z).set 512 0).getD 450 0).toNat : Int) = 238 := by
 have hl := S.len
 exact prot_mbr (m := (n : Int) - 1) (by rw [List.length_set, List.length_append]; omega) (by rw [pcs_set_out (by omega), pcs_app (by omega)]; exact S.pr)
end st
end Go.Proofs.YthcaejaaalkglaaGreatDoor.X
/- Walks of functions, printed by a program of this claim. -/
namespace Go.Proofs.YthcaejaaalkglaaGreatDoor.X
set_option linter.unusedVariables false
set_option linter.unusedSimpArgs false
open Go Go.RowKit
namespace PF
theorem ca14 : callable Tryz.prog 14 = true := by kernel_rfl
end PF
open PF
end Go.Proofs.YthcaejaaalkglaaGreatDoor.X
/- Walks of functions, printed by a program of this claim. -/
namespace Go.Proofs.YthcaejaaalkglaaGreatDoor.X
set_option linter.unusedVariables false
set_option linter.unusedSimpArgs false
open Go Go.RowKit
open PF
set_option maxRecDepth 100000 in
set_option maxHeartbeats 1000000 in
theorem c_repair (w : World) (t : Nat) (D : Option Addr) (m cp : Nat) (g : List UInt8) (pr rb : Bool) (frm crc my oth fi lx : Int) (N : Nat) (hN : 80 ≤ N ∧ N ≤ 1000000) (ht : w.heap[t]? = some (.cells (tbC D m cp 512 512 g pr rb 128 128 frm crc my oth fi lx true).toArray 106 (0, 0))) : Calls Tryz.prog 32 #[.pointer (some ⟨t, 0, none⟩), .int .u64 ((N * 512 : Nat) : Int)] w (Ret fun v w' => v = .nilIface ∧ Fr [t] w w' ∧ w'.heap[t]? = some (.cells (tbC D m cp 512 512 g pr rb 128 128 frm crc my ((N : Int) - 1) fi ((N : Int) - 34) true).toArray 106 (0, 0))) := by
 refine enter (fun ρ => ρ 4) Tryz.func32 rfl rfl rfl (res1 rfl) ?_
 have H := SH.rw1 ht
 refine sq ?_
 refine rg ?_
 refine asg (v := .nilIface) rfl rfl ?_
 refine nl ?_
 refine then_n ?_
 refine sq ?_
 refine sq ?_
 refine rg ?_
 refine mv (v := .pointer _) rfl rfl ?_
 refine nc rfl rfl ?_
 refine fa rfl fo106_1 rfl ?_
 refine ld H rfl sc3 rfl rfl ?_
 refine eql rfl rfl rfl ?_
 refine nl ?_
 refine then_n ?_
 refine cF rfl (by omega) ?_
 refine sk ?_
 refine then_n ?_
 refine sq ?_
 refine dr (by kernel_rfl) ?_
 have H := H.drew
 refine hold (fun _ => True) [] ?_
 refine tk (i := 0) rfl (by kernel_rfl) rfl trivial (fun _ _ => r_mv (v := .pointer _) rfl) ?_
 refine tk (i := 1) rfl (by kernel_rfl) rfl trivial (fun _ _ => r_nc rfl) ?_
 refine tk (i := 2) rfl (by kernel_rfl) rfl trivial (fun _ _ => r_fa rfl fo106_6) ?_
 refine tk (i := 5) rfl (by kernel_rfl) rfl trivial (fun _ _ => r_mv (v := .pointer _) rfl) ?_
 refine tk (i := 6) rfl (by kernel_rfl) rfl trivial (fun _ _ => r_nc rfl) ?_
 refine tk (i := 7) rfl (by kernel_rfl) rfl trivial (fun _ _ => r_fa rfl fo106_7) ?_
 refine tk (i := 11) rfl (by kernel_rfl) rfl trivial (fun _ _ => r_mv (v := .pointer _) rfl) ?_
 refine tk (i := 12) rfl (by kernel_rfl) rfl trivial (fun _ _ => r_nc rfl) ?_
 refine tk (i := 13) rfl (by kernel_rfl) rfl trivial (fun _ _ => r_fa rfl fo106_1) ?_
 refine unfree ?_
 refine holdH H [] ?_
 refine tk (i := 3) rfl (by kernel_rfl) rfl H (fun w' H => r_ld H rfl sc3 rfl) ?_
 refine tk (i := 4) rfl (by kernel_rfl) rfl H (fun w' H => r_cvi rfl rfl Tryz.underlying28 (by first | exact w_u64 (by omega) | exact w_u64 (rng_u64 _) | exact m_u64 _)) ?_
 refine tk (i := 8) rfl (by kernel_rfl) rfl H (fun w' H => r_ld H rfl sc58 rfl) ?_
 refine tk (i := 9) rfl (by kernel_rfl) rfl H (fun w' H => r_cvi rfl rfl Tryz.underlying28 (by first | exact w_u64 (by omega) | exact w_u64 (rng_u64 _) | exact m_u64 _)) ?_
 refine tk (i := 10) rfl (by kernel_rfl) rfl H (fun w' H => r_mul rfl rfl (by first | exact w_u64 (by omega) | exact w_u64 (rng_u64 _) | exact m_u64 _)) ?_
 refine tk (i := 14) rfl (by kernel_rfl) rfl H (fun w' H => r_ld H rfl sc3 rfl) ?_
 refine tk (i := 15) rfl (by kernel_rfl) rfl H (fun w' H => r_cvi rfl rfl Tryz.underlying28 (by first | exact w_u64 (by omega) | exact w_u64 (rng_u64 _) | exact m_u64 _)) ?_
 refine tk (i := 16) rfl (by kernel_rfl) rfl H (fun w' H => r_quo rfl rfl (by omega) (by omega) (by first | exact w_u64 (by omega) | exact w_u64 (rng_u64 _) | exact m_u64 _)) ?_
 refine tk (i := 17) rfl (by kernel_rfl) rfl H (fun w' H => r_asg (v := .int .u64 _) rfl) ?_
 refine da (by kernel_rfl) ?_
 refine then_n ?_
 refine sq ?_
 refine rg ?_
 refine mv (v := .pointer _) rfl rfl ?_
 refine mv (v := .int .u64 _) rfl rfl ?_
 refine mv (v := .pointer _) rfl rfl ?_
 refine nc rfl rfl ?_
 refine fa rfl fo106_1 rfl ?_
 refine ld H rfl sc3 rfl rfl ?_
 refine cvi rfl rfl Tryz.underlying28 (by first | exact w_u64 (by omega) | exact w_u64 (rng_u64 _) | exact m_u64 _) rfl ?_
 refine quo (c := (N : Int)) rfl rfl (by omega) (by omega) (by rw [w_u64 (by omega)]; omega) rfl ?_
 refine sub (c := (N : Int) - 1) rfl rfl (w_u64 (by omega)) rfl ?_
 refine nc rfl rfl ?_
 refine fa rfl fo106_11 rfl ?_
 refine st (v := .int .u64 _) H rfl rfl sc28 rfl (by show 0 + 11 < 15; decide) (by omega) ?_
 clear H; intro w91 H _
 refine nl ?_
 refine then_n ?_
 refine sq ?_
 refine rg ?_
 refine mv (v := .pointer _) rfl rfl ?_
 refine mv (v := .pointer _) rfl rfl ?_
 refine nc rfl rfl ?_
 refine fa rfl fo106_11 rfl ?_
 refine ld H rfl sc28 rfl rfl ?_
 refine mv (v := .int .u64 _) rfl rfl ?_
 refine sub (c := (N : Int) - 33) rfl rfl (by rw [w_u64 (by omega)]; omega) rfl ?_
 refine sub (c := (N : Int) - 34) rfl rfl (by rw [w_u64 (by omega)]; omega) rfl ?_
 refine nc rfl rfl ?_
 refine fa rfl fo106_13 rfl ?_
 refine st (v := .int .u64 _) H rfl rfl sc28 rfl (by show 0 + 13 < 15; decide) (by omega) ?_
 clear H; intro w92 H _
 refine nl ?_
 refine then_n ?_
 refine sq ?_
 refine rg ?_
 refine asg (v := .nilIface) rfl rfl ?_
 refine nl ?_
 refine then_n ?_
 refine rt ?_
 refine fin_r ?_
 exact ⟨rfl, H.fr, H.look⟩
end Go.Proofs.YthcaejaaalkglaaGreatDoor.X
/- A type assertion that does not hold: the one method that is missing. -/
namespace Go.Proofs.YthcaejaaalkglaaGreatDoor.X
set_option linter.unusedVariables false
open Go Go.RowKit
theorem miss_one {want : Array (String × TypeId)} {got : Array Method} {s : String} (h : ((want.toList.filter fun (name, sig) => !got.any fun m => m.name == name && m.sig == sig).map (·.1)) = [s]) : ∃ m, Instr.missingMethod want got = some m := by
 unfold Instr.missingMethod
 rw [h]
 cases hc : (s.contains '.') <;> simp [List.partition, List.partition.loop, hc, Instr.least]
theorem taMiss {P : Program} {v : Value} {w : World} {T xt at_ : TypeId} {want : Array (String × TypeId)} {s : String} (hu : P.underlying at_ = some (.interface want)) (hz : (P.info? at_).bind (·.zero) = some .nilIface)
  (hm : (match P.info? T with | some i => decide (((want.toList.filter fun (name, sig) => !i.methods.any fun m => m.name == name && m.sig == sig).map (·.1)) = [s]) | none => false) = true) :
  (Instr.typeAssert (.iface T v) xt at_ true).run P w = .ok (.tuple #[.nilIface, .bool false]) w := by
 cases hi : P.info? T with
 | none => rw [hi] at hm; cases hm
 | some i =>
  rw [hi] at hm
  obtain ⟨m, h⟩ := miss_one (of_decide_eq_true hm)
  simp [Instr.typeAssert, run_underlying hu, typeInfo, hi, h, run_zeroValue hz]
end Go.Proofs.YthcaejaaalkglaaGreatDoor.X
/- Walks of functions, printed by a program of this claim. -/
namespace Go.Proofs.YthcaejaaalkglaaGreatDoor.X
set_option linter.unusedVariables false
set_option linter.unusedSimpArgs false
open Go Go.RowKit
open PF
set_option maxRecDepth 100000 in
set_option maxHeartbeats 1000000 in
theorem c_writeAt (w : World) (bm bd L c k n c2 f1 f2 : Nat) (x1 x3 : Value) (A : Option Addr) (T : TypeId) (ds xs : List UInt8) (hm : w.heap[bm]? = some (.cells [.slice (some ⟨bd, 0, none⟩) L c, x1, .bool false, x3].toArray 76 (0, 0))) (hd : w.heap[bd]? = some (.cells (Bs ds).toArray T (f1, f2))) (hR : RB w A n xs) (hk : k + n ≤ L) (hL : L ≤ ds.length) (hLc : L ≤ c) (hn : 0 < n) (hc : L ≤ 1000000000) (hne : bm ≠ bd) (hfz : f2 = 0 ∨ L ≤ f1) : Calls Tryz.prog 122 #[.pointer (some ⟨bm, 0, none⟩), .slice A n c2, .int .i64 (k : Int)] w (Ret fun v w' => v = .tuple #[.int .i64 (n : Int), .nilIface] ∧ Fr [bd] w w' ∧ w'.heap[bd]? = some (.cells (Bs (pAt ds k xs)).toArray T (f1, f2))) := by
 refine enter (fun ρ => .tuple #[ρ 6, ρ 7]) Tryz.func122 rfl rfl rfl (res2 rfl) ?_
 have H : SH w [bd] w [⟨bd, .cells (Bs ds).toArray T (f1, f2), true⟩, ⟨bm, .cells [.slice (some ⟨bd, 0, none⟩) L c, x1, .bool false, x3].toArray 76 (0, 0), false⟩] := SH.init [bd] _ (by simp [hm, hd]) (by simp [hne.symm]) (by simp)
 have hRl := hR.1
 refine sq ?_
 refine rg ?_
 refine asg (v := .int .i64 _) rfl rfl ?_
 refine asg (v := .nilIface) rfl rfl ?_
 refine nl ?_
 refine then_n ?_
 refine sq ?_
 refine sq ?_
 refine rg ?_
 refine mv (v := .int .i64 _) rfl rfl ?_
 refine lss rfl rfl rfl ?_
 refine mv (v := .bool _) rfl rfl ?_
 refine spL (t := 10) (b := false) rfl ?_
 refine gy rfl ?_
 refine mv (v := .int .i64 _) rfl rfl ?_
 refine gy rfl ?_
 refine mv (v := .pointer _) rfl rfl ?_
 refine gy rfl ?_
 refine nc rfl rfl ?_
 refine gy rfl ?_
 refine fa rfl fo76_0 rfl ?_
 refine gy rfl ?_
 refine ld H rfl sc30 rfl rfl ?_
 refine gy rfl ?_
 refine lnS rfl Tryz.underlying30 rfl ?_
 refine gy rfl ?_
 refine gtr rfl rfl rfl ?_
 refine pkF (v := .bool _) rfl rfl rfl ?_
 refine mv (v := .bool _) rfl rfl ?_
 refine spF (t := 19) rfl (by omega) ?_
 refine gy rfl ?_
 refine mv (v := .slice _ _ _) rfl rfl ?_
 refine gy rfl ?_
 refine lnS rfl Tryz.underlying30 rfl ?_
 refine gy rfl ?_
 refine mv (v := .pointer _) rfl rfl ?_
 refine gy rfl ?_
 refine nc rfl rfl ?_
 refine gy rfl ?_
 refine fa rfl fo76_0 rfl ?_
 refine gy rfl ?_
 refine ld H rfl sc30 rfl rfl ?_
 refine gy rfl ?_
 refine lnS rfl Tryz.underlying30 rfl ?_
 refine gy rfl ?_
 refine mv (v := .int .i64 _) rfl rfl ?_
 refine gy rfl ?_
 refine sub rfl rfl (by first | exact w_i64 (by omega) | exact w_i64 (rng_i64 _) | rfl) rfl ?_
 refine gy rfl ?_
 refine gtr rfl rfl rfl ?_
 refine pkF (v := .bool _) rfl rfl rfl ?_
 refine nl ?_
 refine then_n ?_
 refine cF rfl (by omega) ?_
 refine sk ?_
 refine then_n ?_
 refine sq ?_
 refine sq ?_
 refine rg ?_
 refine mv (v := .pointer _) rfl rfl ?_
 refine nc rfl rfl ?_
 refine fa rfl fo76_2 rfl ?_
 refine ld H rfl sc4 rfl rfl ?_
 refine nl ?_
 refine then_n ?_
 refine cbF rfl rfl ?_
 refine sk ?_
 refine then_n ?_
 refine sq ?_
 refine rg ?_
 refine mv (v := .pointer _) rfl rfl ?_
 refine nc rfl rfl ?_
 refine fa rfl fo76_0 rfl ?_
 refine ld H rfl sc30 rfl rfl ?_
 refine mv (v := .int .i64 _) rfl rfl ?_
 refine sll rfl rfl Tryz.underlying30 sz5_1 (by first | trivial | omega | (simp; omega)) rfl ?_
 refine mv (v := .slice _ _ _) rfl rfl ?_
 refine cpB H rfl rfl Tryz.underlying30 sz5_1 hR (by omega) (by omega) rfl ?_
 clear H; intro w1 H _
 refine asg (v := .int .i64 _) rfl rfl ?_
 refine asg (v := .nilIface) rfl rfl ?_
 refine nl ?_
 refine then_n ?_
 refine rt ?_
 refine fin_r ?_
 have e := H.look (b := bd)
 have e0 : 0 + (k : Int).toNat * 1 = k := by omega
 have e1 : min n (L - (k : Int).toNat) = n := by rw [Int.toNat_natCast]; omega
 refine ⟨?_, H.fr, ?_⟩
 ·show Value.tuple #[.int .i64 ((min n (L - (k : Int).toNat) : Nat) : Int), .nilIface] = _
  rw [e1]
 rw [e, e0, e1]
 unfold pAt
 rw [hRl, List.take_of_length_le (l := xs) (by omega)]
theorem taSyncN (v : Value) (w : World) : (Instr.typeAssert (.iface 67 v) 109 149 true).run Tryz.prog w = .ok (.tuple #[.nilIface, .bool false]) w := taMiss (s := "Sync") Tryz.underlying149 (by kernel_rfl) (by kernel_rfl)
set_option maxRecDepth 100000 in
set_option maxHeartbeats 1000000 in
theorem c_syncP (w : World) (bm : Nat) : Calls Tryz.prog 56 #[.iface 67 (.pointer (some ⟨bm, 0, none⟩))] w (Ret fun v w' => v = .nilIface ∧ Fr [] w w') := by
 refine enter (fun ρ => ρ 2) Tryz.func56 rfl rfl rfl (res1 rfl) ?_
 have H := SH.nil w
 refine sq ?_
 refine rg ?_
 refine asg (v := .nilIface) rfl rfl ?_
 refine nl ?_
 refine then_n ?_
 refine sq ?_
 refine sq ?_
 refine rg ?_
 refine mv (v := .iface _ _) rfl rfl ?_
 refine taI (v := .iface 67 _) rfl (taSyncN _ _) rfl ?_
 refine mv (v := .tuple _) rfl rfl ?_
 refine xt rfl rfl rfl ?_
 refine xt rfl rfl rfl ?_
 refine asg (v := .nilIface) rfl rfl ?_
 refine asg (v := .bool _) rfl rfl ?_
 refine nl ?_
 refine then_n ?_
 refine sq ?_
 refine rg ?_
 refine mv (v := .bool _) rfl rfl ?_
 refine nl ?_
 refine then_n ?_
 refine cbF rfl rfl ?_
 refine sk ?_
 refine then_n ?_
 refine sq ?_
 refine rg ?_
 refine asg (v := .nilIface) rfl rfl ?_
 refine nl ?_
 refine then_n ?_
 refine rt ?_
 refine fin_r ?_
 exact ⟨rfl, H.fr⟩
end Go.Proofs.YthcaejaaalkglaaGreatDoor.X
/- Walks of functions, printed by a program of this claim. -/
namespace Go.Proofs.YthcaejaaalkglaaGreatDoor.X
set_option linter.unusedVariables false
set_option linter.unusedSimpArgs false
open Go Go.RowKit
namespace PF
theorem me67_WriteAt : ∀ (v : Value) (w : World), (method (Tryz.prog.types.size + Made.depth) 67 v "WriteAt").run Tryz.prog w = .ok (122, v) w := fun v w => by kernel_rfl
end PF
open PF
set_option maxRecDepth 100000 in
set_option maxHeartbeats 4000000 in
theorem c_write1P (w : World) (bm bd L c f1 f2 : Nat) (x1 x3 : Value) (T : TypeId) (ds : List UInt8) (hm : w.heap[bm]? = some (.cells ([.slice (some ⟨bd, 0, none⟩) L c, x1, .bool false, x3] : List Value).toArray 76 (0, 0))) (hd : w.heap[bd]? = some (.cells (Bs ds).toArray T (f1, f2))) (q o k n c2 : Nat) (xs : List UInt8) (hR : RB w (some ⟨q, o, none⟩) n xs) (hk : k + n ≤ L) (hL : L ≤ ds.length) (hLc : L ≤ c) (hn : 0 < n) (hc : L ≤ 1000000000) (hne : bm ≠ bd) (b4 : Nat) (wt : ByteArray) (h4 : w.cell? ⟨b4, 0, none⟩ = some (.iface 67 (.pointer (some ⟨bm, 0, none⟩)))) (h4b : b4 ≠ bd) (hfz : f2 = 0 ∨ L ≤ f1) : Calls Tryz.prog 55 #[.slice (some ⟨q, o, none⟩) n c2, .int .i64 (k : Int), .string wt, .pointer (some ⟨b4, 0, none⟩)] w (Ret fun v w' => v = .nilIface ∧ Fr [bd] w w' ∧ w'.heap[bd]? = some (.cells (Bs (pAt ds k xs)).toArray T (f1, f2))) := by
 refine enter (fun ρ => ρ 7) Tryz.func55 rfl rfl rfl (res1 rfl) ?_
 have H := SH.rw1 hd
 have hRl := hR.1
 refine sq ?_
 refine rg ?_
 refine asg (v := .nilIface) rfl rfl ?_
 refine nl ?_
 refine then_n ?_
 refine sq ?_
 refine rg ?_
 refine lc (v := .iface _ _) rfl h4 sc109 rfl ?_
 refine mv (v := .slice _ _ _) rfl rfl ?_
 refine mv (v := .int .i64 _) rfl rfl ?_
 refine mc rfl me67_WriteAt ca122 (c_writeAt _ bm bd L c k n c2 f1 f2 x1 x3 (some ⟨q, o, none⟩) T ds xs hm hd hR hk hL hLc hn hc hne hfz) rfl ?_
 rintro _ w1 ⟨rfl, F, hnew⟩
 replace H := H.put (b := bd) F hnew; clear F hnew
 refine mv (v := .tuple _) rfl rfl ?_
 refine xt rfl rfl rfl ?_
 refine xt rfl rfl rfl ?_
 refine asg (v := .int .i64 _) rfl rfl ?_
 refine asg (v := .nilIface) rfl rfl ?_
 refine nl ?_
 refine then_n ?_
 refine sq ?_
 refine sq ?_
 refine rg ?_
 refine mv (v := .nilIface) rfl rfl ?_
 refine neqI0 rfl Tryz.underlying73 rfl ?_
 refine nl ?_
 refine then_n ?_
 refine cbF rfl rfl ?_
 refine sk ?_
 refine then_n ?_
 refine sq ?_
 refine sq ?_
 refine rg ?_
 refine mv (v := .int .i64 _) rfl rfl ?_
 refine mv (v := .slice _ _ _) rfl rfl ?_
 refine lnS rfl Tryz.underlying30 rfl ?_
 refine neq rfl rfl rfl ?_
 refine nl ?_
 refine then_n ?_
 refine cF rfl (by omega) ?_
 refine sk ?_
 refine then_n ?_
 refine sq ?_
 refine sq ?_
 refine rg ?_
 refine lc (v := .iface _ _) rfl (H.fr.cell h4 (by simpa using h4b)) sc109 rfl ?_
 refine cl ca56 (c_syncP _ bm) rfl ?_
 rintro _ w2 ⟨rfl, F⟩
 replace H := H.keep F; clear F
 refine asg (v := .nilIface) rfl rfl ?_
 refine nl ?_
 refine then_n ?_
 refine sq ?_
 refine rg ?_
 refine mv (v := .nilIface) rfl rfl ?_
 refine neqI0 rfl Tryz.underlying73 rfl ?_
 refine nl ?_
 refine then_n ?_
 refine cbF rfl rfl ?_
 refine sk ?_
 refine then_n ?_
 refine sq ?_
 refine rg ?_
 refine asg (v := .nilIface) rfl rfl ?_
 refine nl ?_
 refine then_n ?_
 refine rt ?_
 refine fin_r ?_
 exact ⟨rfl, H.fr, H.look⟩
end Go.Proofs.YthcaejaaalkglaaGreatDoor.X
/- Walks of functions, printed by a program of this claim. -/
namespace Go.Proofs.YthcaejaaalkglaaGreatDoor.X
set_option linter.unusedVariables false
set_option linter.unusedSimpArgs false
open Go Go.RowKit
open PF
set_option maxRecDepth 100000 in
set_option maxHeartbeats 16000000 in
theorem c_writeP (w : World) (S : List Nat) (t bm bd c f1 f2 : Nat) (x1 x3 : Value) (T : TypeId) (ds : List UInt8) (D : Option Addr) (m cap : Nat) (g : List UInt8) (rb : Bool) (frm crc : Int) (n : Nat) (hn : 80 ≤ n ∧ n ≤ 1000000) (l : PL) (ps : List GP) (y1 y2 : Value) (hs0 : l.map Prod.snd = ps.map (pcY y1 y2)) (hlen : l.length = m) (hrow : ∀ j x, l[j]? = some x → ∃ ad, D = some ad ∧ w.cell? (ad.add j) = some (.pointer (some ⟨x.1, 0, none⟩))) (hDn : ∀ ad, D = some ad → ad.block ∉ S) (hDl0 : ∀ ad, D = some ad → ad.block ∉ l.map Prod.fst) (hg0 : goodL n ps) (hok0 : ∀ p ∈ ps, p.ok) (hft0 : ∀ p ∈ ps, p.fit) (hm : m ≤ 200) (hgu : gOk g = true) (hL0 : n * 512 ≤ ds.length) (hLc : n * 512 ≤ c) (hne : bm ≠ bd) (hbd : bd < w.heap.size) (hfz : f2 = 0 ∨ n * 512 ≤ f1) (z9 : Int) (H0 : SH w S w (⟨t, .cells (tbC D m cap 512 512 g true rb 128 128 frm crc 1 ((n : Int) - 1) 34 ((n : Int) - 34) true).toArray 106 (0, 0), true⟩ :: ⟨bm, .cells ([.slice (some ⟨bd, 0, none⟩) (n * 512) c, x1, .bool false, x3] : List Value).toArray 76 (0, 0), true⟩ :: ⟨bd, .cells (Bs (ds)).toArray T (f1, f2), true⟩ :: ents 126 l)) : Calls Tryz.prog 33 #[.pointer (some ⟨t, 0, none⟩), .iface 67 (.pointer (some ⟨bm, 0, none⟩)), .int .i64 z9] w (Ret fun v w' => v = .nilIface ∧ SH w S w' [⟨bm, .cells ([.slice (some ⟨bd, 0, none⟩) (n * 512) c, x1, .bool false, x3] : List Value).toArray 76 (0, 0), true⟩, ⟨bd, .cells (Bs (wrB ds n g ps)).toArray T (f1, f2), true⟩]) := by
 refine enter (fun ρ => ρ 6) Tryz.func33 rfl rfl rfl (res1 rfl) ?_
 have H := H0
 have hg1 := up_goodL hg0
 have hg2 := hg1
 have hok1 := up_ok hok0
 have hok2 := hok1
 have hft1 := up_fit hft0
 have hft2 := hft1
 have hb0 : l.map Prod.fst = l.map Prod.fst := rfl
 have hfs : ∀ p ∈ ps, p.fits := fun p hp => (hg0.1 p hp).fits
 have hal := arrB_len hfs
 have hgl := gB_len g
 have hh1 : (encHdr n g ps).length = 512 := hdrB_len hgl
 have hh2 : (encHdr2 n g ps).length = 512 := hdrB_len hgl
 have hpt := protT_len n
 have e1 : (wr1 ds n).length = ds.length := pAt_len (by omega)
 have hL1 : n * 512 ≤ (wr1 ds n).length := by omega
 have e2 : (wr2 ds n ps).length = ds.length := by rw [← e1]; exact pAt_len (by omega)
 have hL2 : n * 512 ≤ (wr2 ds n ps).length := by omega
 have e3 : (wr3 ds n g ps).length = ds.length := by rw [← e2]; exact pAt_len (by omega)
 have hL3 : n * 512 ≤ (wr3 ds n g ps).length := by omega
 have e4 : (wr4 ds n g ps).length = ds.length := by rw [← e3]; exact pAt_len (by omega)
 have hL4 : n * 512 ≤ (wr4 ds n g ps).length := by omega
 refine sq ?_
 refine rg ?_
 refine bx (v := .iface _ _) H rfl rfl rfl ?_
 clear H; intro b1 w1 hb1 H _
 refine asg (v := .nilIface) rfl rfl ?_
 refine nl ?_
 refine then_n ?_
 refine sq ?_
 refine sq ?_
 refine rg ?_
 refine mv (v := .pointer _) rfl rfl ?_
 refine nc rfl rfl ?_
 refine fa rfl fo106_14 rfl ?_
 refine ld H rfl sc4 rfl rfl ?_
 refine unot rfl rfl ?_
 refine nl ?_
 refine then_n ?_
 refine cbF rfl rfl ?_
 refine sk ?_
 refine then_n ?_
 refine sq ?_
 refine rg ?_
 refine mv (v := .pointer _) rfl rfl ?_
 refine cl ca52 (c_toGptT _ t D m cap g true rb frm crc n hn l ps y1 y2 hs0 (len_same hb0 hlen) (row_same hb0 hrow S H.fr hDn) hDl0 hg0 hok0 hft0 hm hgu (SH.tabBase (A := [_]) (B := [_, _]) H)) rfl ?_
 rintro _ w1 ⟨q1, l1, rfl, hbx, hsx, K⟩
 have H9 := SH.joinE (A := [_, _, _, _]) (Y := [_]) H K hbx (by simp)
 have H : SH w S w1 (_ :: _ :: _ :: _ :: _ ::  ents 126 l1) := H9
 clear H9
 have hb1 : l1.map Prod.fst = l.map Prod.fst := hbx.trans hb0
 have hs1 : l1.map Prod.snd = (ps.map upG).map (pcY y1 y2) := hsx
 have hDl1 : ∀ ad, D = some ad → ad.block ∉ l1.map Prod.fst := fun ad e => by rw [hb1]; exact hDl0 ad e
 clear hbx hsx K
 refine mv (v := .tuple _) rfl rfl ?_
 refine xt rfl rfl rfl ?_
 refine xt rfl rfl rfl ?_
 refine asg (v := .slice _ _ _) rfl rfl ?_
 refine asg (v := .nilIface) rfl rfl ?_
 refine nl ?_
 refine then_n ?_
 refine sq ?_
 refine sq ?_
 refine rg ?_
 refine mv (v := .nilIface) rfl rfl ?_
 refine neqI0 rfl Tryz.underlying73 rfl ?_
 refine nl ?_
 refine then_n ?_
 refine cbF rfl rfl ?_
 refine sk ?_
 refine then_n ?_
 refine sq ?_
 refine rg ?_
 refine mv (v := .pointer _) rfl rfl ?_
 refine cl ca52 (c_toGptF _ t D m cap g true rb frm crc n hn l1 (ps.map upG) y1 y2 hs1 (len_same hb1 hlen) (row_same hb1 hrow S H.fr hDn) hDl1 hg1 hok1 hft1 hm hgu (SH.tabBase (A := [_, _]) (B := [_, _]) H)) rfl ?_
 rintro _ w2 ⟨q2, l2, rfl, hbx, hsx, K⟩
 have H9 := SH.joinE (A := [_, _, _, _, _]) (Y := [_]) H K hbx (by simp)
 have H : SH w S w2 (_ :: _ :: _ :: _ :: _ :: _ ::  ents 126 l2) := H9
 clear H9
 have hb2 : l2.map Prod.fst = l.map Prod.fst := hbx.trans hb1
 rw [up_up] at hsx
 have hs2 : l2.map Prod.snd = (ps.map upG).map (pcY y1 y2) := hsx
 rw [arrB_up] at H
 have hDl2 : ∀ ad, D = some ad → ad.block ∉ l2.map Prod.fst := fun ad e => by rw [hb2]; exact hDl0 ad e
 clear hbx hsx K
 refine mv (v := .tuple _) rfl rfl ?_
 refine xt rfl rfl rfl ?_
 refine xt rfl rfl rfl ?_
 refine asg (v := .slice _ _ _) rfl rfl ?_
 refine asg (v := .nilIface) rfl rfl ?_
 refine nl ?_
 refine then_n ?_
 refine sq ?_
 refine sq ?_
 refine rg ?_
 refine mv (v := .nilIface) rfl rfl ?_
 refine neqI0 rfl Tryz.underlying73 rfl ?_
 refine nl ?_
 refine then_n ?_
 refine cbF rfl rfl ?_
 refine sk ?_
 refine then_n ?_
 refine sq ?_
 refine rg ?_
 refine mv (v := .pointer _) rfl rfl ?_
 refine cl ca53 (c_partArr _ t D m cap g true rb true frm crc 1 ((n : Int) - 1) 34 ((n : Int) - 34) l2 (ps.map upG) y1 y2 hs2 (len_same hb2 hlen) (row_same hb2 hrow S H.fr hDn) hDl2 n hg2 hn hok2 hft2 hm (SH.tabBase (A := [_, _, _]) (B := [_, _]) H)) rfl ?_
 rintro _ w3 ⟨q3, l3, rfl, hbx, hsx, K⟩
 have H9 := SH.joinE (A := [_, _, _, _, _, _]) (Y := [_]) H K hbx (by simp)
 have H : SH w S w3 (_ :: _ :: _ :: _ :: _ :: _ :: _ ::  ents 126 l3) := H9
 clear H9
 have hb3 : l3.map Prod.fst = l.map Prod.fst := hbx.trans hb2
 rw [up_up] at hsx
 have hs3 : l3.map Prod.snd = (ps.map upG).map (pcY y1 y2) := hsx
 rw [arrB_up] at H
 have hDl3 : ∀ ad, D = some ad → ad.block ∉ l3.map Prod.fst := fun ad e => by rw [hb3]; exact hDl0 ad e
 clear hbx hsx K
 refine mv (v := .tuple _) rfl rfl ?_
 refine xt rfl rfl rfl ?_
 refine xt rfl rfl rfl ?_
 refine asg (v := .slice _ _ _) rfl rfl ?_
 refine asg (v := .nilIface) rfl rfl ?_
 refine nl ?_
 refine then_n ?_
 refine sq ?_
 refine sq ?_
 refine rg ?_
 refine mv (v := .nilIface) rfl rfl ?_
 refine neqI0 rfl Tryz.underlying73 rfl ?_
 refine nl ?_
 refine then_n ?_
 refine cbF rfl rfl ?_
 refine sk ?_
 refine then_n ?_
 refine sq ?_
 refine rg ?_
 refine mv (v := .pointer _) rfl rfl ?_
 refine nc rfl rfl ?_
 refine fa rfl fo106_1 rfl ?_
 refine ld H rfl sc3 rfl rfl ?_
 refine asg (v := .int .i64 _) rfl rfl ?_
 refine nl ?_
 refine then_n ?_
 refine sq ?_
 refine rg ?_
 refine mv (v := .int .i64 _) rfl rfl ?_
 refine mv (v := .pointer _) rfl rfl ?_
 refine cl ca54 (c_pas _ t _ _ _ _ _ _ _ _ n hn true (H.look (b := t))) rfl ?_
 rintro _ w4 ⟨rfl, F⟩
 replace H := H.keep F; clear F
 refine cvi rfl rfl Tryz.underlying2 (by first | exact w_i64 (by omega) | exact w_i64 (rng_i64 _) | rfl) rfl ?_
 refine mul (c := 1024) rfl rfl rfl rfl ?_
 refine asg (v := .int .i64 _) rfl rfl ?_
 refine nl ?_
 refine then_n ?_
 refine sq ?_
 refine rg ?_
 refine mv (v := .int .i64 _) rfl rfl ?_
 refine mv (v := .pointer _) rfl rfl ?_
 refine cl ca54 (c_pas _ t _ _ _ _ _ _ _ _ n hn false (H.look (b := t))) rfl ?_
 rintro _ w5 ⟨rfl, F⟩
 replace H := H.keep F; clear F
 refine cvi rfl rfl Tryz.underlying2 (by first | exact w_i64 (by omega) | exact w_i64 (rng_i64 _) | rfl) rfl ?_
 refine mul (c := (((n - 33) * 512 : Nat) : Int)) rfl rfl (by show IntKind.i64.wrap (512 * ((n : Int) - 33)) = _; rw [w_i64 (by omega)]; omega) rfl ?_
 refine asg (v := .int .i64 _) rfl rfl ?_
 refine nl ?_
 refine then_n ?_
 refine sq ?_
 refine rg ?_
 refine mv (v := .int .i64 _) rfl rfl ?_
 refine asg (v := .int .i64 _) rfl rfl ?_
 refine nl ?_
 refine then_n ?_
 refine sq ?_
 refine rg ?_
 refine mv (v := .pointer _) rfl rfl ?_
 refine nc rfl rfl ?_
 refine fa rfl fo106_11 rfl ?_
 refine ld H rfl sc28 rfl rfl ?_
 refine cvi rfl rfl Tryz.underlying2 (by first | exact w_i64 (by omega) | exact w_i64 (rng_i64 _) | rfl) rfl ?_
 refine mv (v := .int .i64 _) rfl rfl ?_
 refine mul (c := (((n - 1) * 512 : Nat) : Int)) rfl rfl (by rw [w_i64 (by omega)]; omega) rfl ?_
 refine asg (v := .int .i64 _) rfl rfl ?_
 refine nl ?_
 refine then_n ?_
 refine sq ?_
 refine rg ?_
 refine mkf [.pointer _] rfl rfl ?_
 refine asg (v := .func _ _ _) rfl rfl ?_
 refine nl ?_
 refine then_n ?_
 refine sq ?_
 refine sq ?_
 refine rg ?_
 refine mv (v := .pointer _) rfl rfl ?_
 refine nc rfl rfl ?_
 refine fa rfl fo106_4 rfl ?_
 refine ld H rfl sc4 rfl rfl ?_
 refine nl ?_
 refine then_n ?_
 refine cbT rfl rfl ?_
 refine sq ?_
 refine rg ?_
 refine mv (v := .pointer _) rfl rfl ?_
 refine cl ca57 (c_genProt _ t _ _ _ _ _ _ _ _ n hn (H.look (b := t))) rfl ?_
 rintro _ w6 ⟨bp, rfl, hbp, hop, F⟩
 replace H := H.new F hbp hop; clear F hop
 refine asg (v := .slice _ _ _) rfl rfl ?_
 refine nl ?_
 refine then_n ?_
 refine sq ?_
 refine rg ?_
 refine mv (v := .slice _ _ _) rfl rfl ?_
 refine sllN (446) (66) (66) rfl rfl Tryz.underlying30 sz5_1 (by omega) (by omega) rfl ?_
 refine asg (v := .slice _ _ _) rfl rfl ?_
 refine nl ?_
 refine then_n ?_
 refine sq ?_
 refine rg ?_
 refine mv (v := .func _ _ _) rfl rfl ?_
 refine mv (v := .slice _ _ _) rfl rfl ?_
 refine cld rfl ca55 (c_write1P _ bm bd (n * 512) c f1 f2 x1 x3 T (ds) (H.look (b := bm)) (H.look (b := bd)) bp 446 446 66 _ (protT n) (RB.heapAt (H.look (b := bp)) (by rw [genP_len]; decide)) (by omega) hL0 hLc (by omega) (by omega) hne b1 _ (cell_at (H.look (b := b1))) (by omega) hfz) rfl ?_
 rintro _ w7 ⟨rfl, F, hnew⟩
 replace H := H.put (b := bd) F hnew; clear F hnew
 refine asg (v := .nilIface) rfl rfl ?_
 refine nl ?_
 refine then_n ?_
 refine sq ?_
 refine rg ?_
 refine mv (v := .nilIface) rfl rfl ?_
 refine neqI0 rfl Tryz.underlying73 rfl ?_
 refine nl ?_
 refine then_n ?_
 refine cbF rfl rfl ?_
 refine sk ?_
 refine then_n ?_
 refine sq ?_
 refine sq ?_
 refine rg ?_
 refine mv (v := .func _ _ _) rfl rfl ?_
 refine mv (v := .slice _ _ _) rfl rfl ?_
 refine mv (v := .int .i64 _) rfl rfl ?_
 refine cld rfl ca55 (c_write1P _ bm bd (n * 512) c f1 f2 x1 x3 T (wr1 ds n) (H.look (b := bm)) (H.look (b := bd)) q3 0 ((n - 33) * 512) 16384 _ (arrB ps) (RB.heap (H.look (b := q3)) hal) (by omega) hL1 hLc (by omega) (by omega) hne b1 _ (cell_at (H.look (b := b1))) (by omega) hfz) rfl ?_
 rintro _ w8 ⟨rfl, F, hnew⟩
 replace H := H.put (b := bd) F hnew; clear F hnew
 refine asg (v := .nilIface) rfl rfl ?_
 refine nl ?_
 refine then_n ?_
 refine sq ?_
 refine rg ?_
 refine mv (v := .nilIface) rfl rfl ?_
 refine neqI0 rfl Tryz.underlying73 rfl ?_
 refine nl ?_
 refine then_n ?_
 refine cbF rfl rfl ?_
 refine sk ?_
 refine then_n ?_
 refine sq ?_
 refine sq ?_
 refine rg ?_
 refine mv (v := .func _ _ _) rfl rfl ?_
 refine mv (v := .slice _ _ _) rfl rfl ?_
 refine mv (v := .int .i64 _) rfl rfl ?_
 refine cld rfl ca55 (c_write1P _ bm bd (n * 512) c f1 f2 x1 x3 T (wr2 ds n ps) (H.look (b := bm)) (H.look (b := bd)) q2 0 ((n - 1) * 512) 512 _ (encHdr2 n g ps) (RB.heap (H.look (b := q2)) hh2) (by omega) hL2 hLc (by omega) (by omega) hne b1 _ (cell_at (H.look (b := b1))) (by omega) hfz) rfl ?_
 rintro _ w9 ⟨rfl, F, hnew⟩
 replace H := H.put (b := bd) F hnew; clear F hnew
 refine asg (v := .nilIface) rfl rfl ?_
 refine nl ?_
 refine then_n ?_
 refine sq ?_
 refine rg ?_
 refine mv (v := .nilIface) rfl rfl ?_
 refine neqI0 rfl Tryz.underlying73 rfl ?_
 refine nl ?_
 refine then_n ?_
 refine cbF rfl rfl ?_
 refine sk ?_
 refine then_n ?_
 refine sq ?_
 refine sq ?_
 refine rg ?_
 refine mv (v := .func _ _ _) rfl rfl ?_
 refine mv (v := .slice _ _ _) rfl rfl ?_
 refine mv (v := .int .i64 _) rfl rfl ?_
 refine cld rfl ca55 (c_write1P _ bm bd (n * 512) c f1 f2 x1 x3 T (wr3 ds n g ps) (H.look (b := bm)) (H.look (b := bd)) q3 0 1024 16384 _ (arrB ps) (RB.heap (H.look (b := q3)) hal) (by omega) hL3 hLc (by omega) (by omega) hne b1 _ (cell_at (H.look (b := b1))) (by omega) hfz) rfl ?_
 rintro _ w10 ⟨rfl, F, hnew⟩
 replace H := H.put (b := bd) F hnew; clear F hnew
 refine asg (v := .nilIface) rfl rfl ?_
 refine nl ?_
 refine then_n ?_
 refine sq ?_
 refine rg ?_
 refine mv (v := .nilIface) rfl rfl ?_
 refine neqI0 rfl Tryz.underlying73 rfl ?_
 refine nl ?_
 refine then_n ?_
 refine cbF rfl rfl ?_
 refine sk ?_
 refine then_n ?_
 refine sq ?_
 refine sq ?_
 refine rg ?_
 refine mv (v := .func _ _ _) rfl rfl ?_
 refine mv (v := .slice _ _ _) rfl rfl ?_
 refine mv (v := .int .i64 _) rfl rfl ?_
 refine cld rfl ca55 (c_write1P _ bm bd (n * 512) c f1 f2 x1 x3 T (wr4 ds n g ps) (H.look (b := bm)) (H.look (b := bd)) q1 0 512 512 _ (encHdr n g ps) (RB.heap (H.look (b := q1)) hh1) (by omega) hL4 hLc (by omega) (by omega) hne b1 _ (cell_at (H.look (b := b1))) (by omega) hfz) rfl ?_
 rintro _ w11 ⟨rfl, F, hnew⟩
 replace H := H.put (b := bd) F hnew; clear F hnew
 refine asg (v := .nilIface) rfl rfl ?_
 refine nl ?_
 refine then_n ?_
 refine sq ?_
 refine rg ?_
 refine mv (v := .nilIface) rfl rfl ?_
 refine neqI0 rfl Tryz.underlying73 rfl ?_
 refine nl ?_
 refine then_n ?_
 refine cbF rfl rfl ?_
 refine sk ?_
 refine then_n ?_
 refine sq ?_
 refine rg ?_
 refine asg (v := .nilIface) rfl rfl ?_
 refine nl ?_
 refine then_n ?_
 refine rt ?_
 refine fin_r ?_
 exact ⟨rfl, H.subX⟩
end Go.Proofs.YthcaejaaalkglaaGreatDoor.X
/- Zeros appended to a full row of bytes. -/
namespace Go.Proofs.YthcaejaaalkglaaGreatDoor.X
set_option linter.unusedVariables false
open Go Go.RowKit
variable {P : Program} {n : Nat} {ops : Array Oper} {Q : Post} {rest : List Oper} {ρ : Env} {w : World} {ty : TypeId} {pos : String} {af : Array Edge} {d : Nat}
theorem slhm {A : Option Addr} {t e : TypeId} {x hi mx : Operand} {len cap sz : Nat} {kh km : IntKind} {h m : Int} (h' m' : Nat) (hx : ev ρ x = .slice A len cap) (h2 : ev ρ hi = .int kh h) (h3 : ev ρ mx = .int km m) (hu : P.underlying t = some (.slice e)) (hs : sizeB P e sz = true) (hb : 0 ≤ h ∧ h ≤ m ∧ m ≤ cap) (ho : h.toNat = h' ∧ m.toNat = m') (hn : Nat.blt d n = true)
  (kk : wl P n ops Q rest (upd ρ d (.slice A h' m')) w) : wl P n ops Q (⟨some d, .slice t x none (some hi) (some mx), ty, pos, af, none⟩ :: rest) ρ w := by
 obtain ⟨rfl, rfl⟩ := ho
 exact val rfl rfl hn (by
  have e0 : ∀ a : Addr, a.add 0 = a := fun a => by simp [Addr.add]
  have e1 : 0 ≤ m := by omega
  have e2 : max m 0 = m := by omega
  cases A <;> simp [execOp, hx, h2, h3, Instr.sliceAt, run_underlying hu, Instr.slice, Instr.sliceBounds, Instr.sliceBound, asIntOf, hb.1, hb.2.1, hb.2.2, e1, e2, run_sizeOf hs, e0]) kk
theorem apK {t tn e : TypeId} {kn : IntKind} {w0 : World} {S : List Nat} {L : List Ent} {b m : Nat} {ds Z : List UInt8} {fr : Nat × Nat} {s x : Operand} (k : Nat) (H : SH w0 S w (⟨b, .cells (Bs (ds ++ Z)).toArray e fr, true⟩ :: L)) (hm : ds.length = m)
  (hs : ev ρ s = .slice (some ⟨b, 0, none⟩) m m) (hx : ev ρ x = .int .i64 (k : Int)) (hu : P.underlying t = some (.slice e)) (htn : P.underlying tn = some (.int kn)) (hi : rowInfo P e = some ([.int .u8 0], 1)) (hb : m + k ≤ 100000000) (hn : Nat.blt d n = true)
  (kk : ∀ q cap' Z' fr' w', m + k ≤ cap' → (fr' = fr ∧ k = 0 ∨ fr' = (0, 0)) → Fr [] w w' → SH w0 S w' (⟨q, .cells (Bs (ds ++ List.replicate k 0 ++ Z')).toArray e fr', true⟩ :: L) → wl P n ops Q rest (upd ρ d (.slice (some ⟨q, 0, none⟩) (m + k) cap')) w') : wl P n ops Q (⟨some d, .call { callee := .builtin .append, args := #[s, x], argTypes := #[t, tn] }, ty, pos, af, none⟩ :: rest) ρ w := by
 obtain ⟨i, z, hinf, hz, hzc, hsz, hby, hpos⟩ := rowInfo_some hi
 have hsz1 : i.size = 1 := hsz
 have hby1 : i.bytes = 1 := hby
 rcases Nat.eq_zero_or_pos k with rfl | hk
 ·have hr : (Builtin.append_ #[t, tn] ty #[.slice (some ⟨b, 0, none⟩) m m, (.int .i64 0)]).run P w = .ok (.slice (some ⟨b, 0, none⟩) m m) w := by
   simp [Builtin.append_, run_underlying hu, run_underlying htn, sizeOf, typeInfo, hinf, asInt, asIntOf, IntKind.wrap_i64, storeCells]
  have hx0 : ev ρ x = .int .i64 0 := hx
  exact val rfl rfl hn (by simp [execOp, resolve, invoke, builtin, hs, hx0, hr]) (kk b m Z fr w (Nat.le_refl _) (.inl ⟨rfl, rfl⟩) (Fr.refl _ _) (by simpa using H))
 ·have hR : RB w (some ⟨b, 0, none⟩) m ds := hm ▸ RB.pre (b := b) H
  have holds : ∀ j u, (Bs ds)[j]? = some u → w.cell? ((⟨b, 0, none⟩ : Addr).add j) = some u := fun j u h => by
   obtain ⟨ad', h1, h2⟩ := RB.cells hR j u h
   obtain rfl := Option.some.inj h1
   exact h2
  have hold := run_firstCells_some (P := P) w.drew i.size m ⟨b, 0, none⟩ m m (Bs ds) (by rw [hsz1, Bs_length, hm]; omega) (by simpa using holds)
  have hr := Lib.run_append_grow_zeros (P := P) w t tn ty e i z .i64 kn hu htn hinf hz (some ⟨b, 0, none⟩) m m (Bs ds) hold k hk (by omega) (by omega) (by omega) (by rw [hby1]; omega) (by rw [hby1]; exact growslice_fits (by omega) (by omega))
  have hge := grownCap_ge w (m + k) m e
  have e1 : (Bs ds).toArray ++ Builtin.zeroCells z.cells k ++ Builtin.zeroCells z.cells (grownCap w (m + k) m e - (m + k)) = (Bs (ds ++ List.replicate k 0 ++ List.replicate (grownCap w (m + k) m e - (m + k)) 0)).toArray := by
   apply Array.ext'
   rw [hzc]
   have e2 : ∀ a b : List UInt8, Bs (a ++ b) = Bs a ++ Bs b := fun a b => List.map_append ..
   rw [e2, e2]
   simp only [Array.toList_append, Bs_zeros]
  have hf : Fr [] w (w.drew.alloc (.cells ((Bs ds).toArray ++ Builtin.zeroCells z.cells k ++ Builtin.zeroCells z.cells (grownCap w (m + k) m e - (m + k))) e)) := (Fr.drew [] w).trans (Fr.alloc w.drew _)
  have hnew := H.new (o := .cells ((Bs ds).toArray ++ Builtin.zeroCells z.cells k ++ Builtin.zeroCells z.cells (grownCap w (m + k) m e - (m + k))) e) hf (Nat.le_refl _) (heap_alloc_new w.drew _)
  rw [e1] at hr hf hnew
  exact val rfl rfl hn (by simp [execOp, resolve, invoke, builtin, hs, hx, hr]) (kk _ _ _ (0, 0) _ hge (.inr rfl) hf (hnew.sub (List.Sublist.cons_cons _ (List.sublist_cons_self _ _))))
end Go.Proofs.YthcaejaaalkglaaGreatDoor.X
/- A call that changes one block of its caller's: seen from a world in which it is changed already. -/
namespace Go.Proofs.YthcaejaaalkglaaGreatDoor.X
set_option linter.unusedVariables false
open Go Go.RowKit
theorem SH.reb {w1 w2 : World} {b : Nat} {o' : Obj} {M : List Ent} (K : SH w1 [b] w2 M) (hb : b < w1.heap.size) (h : w2.heap[b]? = some o') (hM : ∀ y ∈ M, y.b ≠ b) : SH { w1 with heap := w1.heap.setIfInBounds b o' } [] w2 M := by
 obtain ⟨f, g, a, m⟩ := K
 refine ⟨⟨f.os, f.tape, f.output, by simpa using f.size, fun k hk _ => ?_⟩, g, a, fun y hy hm => ?_⟩
 ·by_cases e : k = b
  ·subst e; simp [h, hb]
  ·have := f.keep k (by simpa using hk) (by simpa using e)
   rw [this]; simp [Ne.symm e]
 ·have := m y hy hm
  simpa [hM y hy] using this
theorem SH.based {w0 w1 : World} {S0 : List Nat} {b : Nat} {o' : Obj} {L L' : List Ent} (H : SH w0 S0 w1 L) [t : Turn L b o' L'] (hb : b < w1.heap.size) : SH w0 S0 { w1 with heap := w1.heap.setIfInBounds b o' } L' := by
 refine SH.put (b := b) (o' := o') H (w' := { w1 with heap := w1.heap.setIfInBounds b o' }) ⟨rfl, rfl, rfl, by simp, fun k hk hn => ?_⟩ ?_
 ·have e : ¬ b = k := fun e => hn (by simp [e])
  simp [e]
 ·simp [hb]
theorem OR.reb {e : TypeId} {sz : Nat} {w1 w2 : World} {b : Nat} {o' : Obj} {M : List Ent} {D : Option Addr} {n cap : Nat} {xs : List Value} (K : OR e sz w1 [b] w2 M D n cap xs) (hb : b < w1.heap.size) (h : w2.heap[b]? = some o') (hM : ∀ y ∈ M, y.b ≠ b) (hD : ∀ ad, D = some ad → ad.block ≠ b) : OR e sz { w1 with heap := w1.heap.setIfInBounds b o' } [] w2 M D n cap xs := by
 refine ⟨K.len, K.sh.reb hb h hM, ?_⟩
 rcases K.own with h1 | ⟨q, cur, rfl, h2, h3, h4, h5, h6⟩
 ·exact .inl h1
 ·refine .inr ⟨q, cur, rfl, h2, h3, h4, h5, h6.reb hb h fun y hy => ?_⟩
  rcases List.mem_cons.1 hy with rfl | hy
  ·exact hD _ rfl
  ·exact hM y hy
theorem ne_kind {w : World} {a b : Nat} {xs ys : List Value} {T T' : TypeId} {f f' : Nat × Nat} (ha : w.heap[a]? = some (.cells xs.toArray T f)) (hb : w.heap[b]? = some (.cells ys.toArray T' f')) (h : T ≠ T') : a ≠ b := by
 rintro rfl
 rw [ha] at hb
 injection hb with e
 injection e with _ e2 _
 exact h e2
theorem SH.tabNe {w0 w : World} {S : List Nat} {T T0 T' : TypeId} {p b : Nat} {xs ys : List Value} {l : PL} {f' : Nat × Nat} (K : SH w0 S w (⟨p, .cells xs.toArray T0 (0, 0), true⟩ :: ents T l)) (h : w.heap[b]? = some (.cells ys.toArray T' f')) (h0 : T0 ≠ T') (h1 : T ≠ T') : ∀ y ∈ ((⟨p, .cells xs.toArray T0 (0, 0), true⟩ : Ent) :: ents T l), y.b ≠ b := by
 intro y hy
 have hg := K.get y hy
 rcases List.mem_cons.1 hy with rfl | hy
 ·exact ne_kind hg h h0
 ·obtain ⟨x, hx, rfl⟩ := List.mem_map.1 hy
  exact ne_kind hg h h1
end Go.Proofs.YthcaejaaalkglaaGreatDoor.X
/- A table that was read, written anew on a larger disk. -/
namespace Go.Proofs.YthcaejaaalkglaaGreatDoor.X
set_option linter.unusedVariables false
open Go Go.RowKit
theorem gpP_good {n N : Nat} {p : GP} (h : p.good n) (ho : p.ok) (hn : n ≤ 1000000) (hN : n ≤ N) : (gpP p).good N := by
 obtain ⟨f1, f2, f3, f4, f5⟩ := pad_fields ho
 have e1 : (gpP p).ix = p.ix := rfl
 have e2 : (gpP p).st = p.st := f3
 have e3 : (gpP p).en = p.en := f4
 have e4 : (gpP p).sz = p.sz := gpP_sz h ho hn
 have e5 := gpP_ty ho
 have e6 : (gpP p).gu = gT (gB p.gu) := by show gT (pcs (padE p) 16 16) = _; rw [f2]
 have e7 : (gpP p).nm = p.nm := pad_name h.fits h.nm
 have h8 := h.la
 refine ⟨by rw [e5]; exact (gT_ok (gB_len _)).1, by rw [e6]; exact (gT_ok (gB_len _)).1, by rw [e5]; exact sameG_gTz h.ty h.tz, by rw [e6]; exact sameG_gTz h.gu h.gz, by rw [e7]; exact h.un, by rw [e7]; exact h.nm, by rw [e1]; exact h.ix, by rw [e2]; exact h.st, by rw [e2, e3]; exact h.en, by rw [e3]; omega, by rw [e2, e3, e4]; exact h.sz⟩
theorem goodL_told {n N : Nat} {ps : List GP} (h : goodL n ps) (ho : ∀ p ∈ ps, p.ok) (hn : n ≤ 1000000) (hN : n ≤ N) : goodL N (ps.map gpP) := by
 refine ⟨fun q hq => ?_, ?_⟩
 ·obtain ⟨p, hp, rfl⟩ := List.mem_map.1 hq
  exact gpP_good (h.1 p hp) (ho p hp) hn hN
 ·rw [List.pairwise_map]; exact h.2
theorem fit_told {n : Nat} {ps : List GP} (h : goodL n ps) (ho : ∀ p ∈ ps, p.ok) (hf : ∀ p ∈ ps, p.fit) : ∀ p ∈ ps.map gpP, p.fit := fun q hq => by
 obtain ⟨p, hp, rfl⟩ := List.mem_map.1 hq
 obtain ⟨f1, f2, f3, f4, f5⟩ := pad_fields (ho p hp)
 refine ⟨?_, ?_, ?_⟩
 ·rw [gpP_ty (ho p hp), gT_len (gB_len _)]; decide
 ·rw [show (gpP p).nm = p.nm from pad_name (h.1 p hp).fits (h.1 p hp).nm]; exact (hf p hp).nm
 ·show (gT (pcs (padE p) 16 16)).length ≤ _
  rw [f2, gT_len (gB_len _)]; decide
theorem entB_told {n : Nat} {p : GP} (h : p.good n) (ho : p.ok) : entB (gpP p) = entB p := by
 obtain ⟨f1, f2, f3, f4, f5⟩ := pad_fields ho
 have e2 : (gpP p).st = p.st := f3
 have e3 : (gpP p).en = p.en := f4
 have e5 := gpP_ty ho
 have e6 : (gpP p).gu = gT (gB p.gu) := by show gT (pcs (padE p) 16 16) = _; rw [f2]
 have e7 : (gpP p).nm = p.nm := pad_name h.fits h.nm
 have e8 : (gpP p).att = p.att := f5
 unfold entB entH
 rw [e2, e3, e5, e6, e7, e8, gB_gT (gB_len _), gB_gT (gB_len _)]
theorem arrB_told {n : Nat} {ps : List GP} (h : goodL n ps) (ho : ∀ p ∈ ps, p.ok) : arrB (ps.map gpP) = arrB ps := by
 have key : ∀ (l : List GP) (a : List UInt8), (∀ p ∈ l, p ∈ ps) → (l.map gpP).foldl arrP a = l.foldl arrP a := by
  intro l
  induction l with
  | nil => intro a _; rfl
  | cons p r ih =>
   intro a hl
   have hp := hl p (.head _)
   have e : arrP a (gpP p) = arrP a p := by
    unfold arrP
    rw [entB_told (h.1 p hp) (ho p hp)]; rfl
   rw [List.map_cons, List.foldl_cons, List.foldl_cons, e]
   exact ih _ fun q hq => hl q (.tail _ hq)
 exact key ps _ fun p hp => hp
theorem wrB_told {n N : Nat} {g : List UInt8} {ps : List GP} (ds : List UInt8) (h : goodL n ps) (ho : ∀ p ∈ ps, p.ok) : wrB ds N (gT (gB g)) (ps.map gpP) = wrB ds N g ps := by
 unfold wrB wr4 wr3 wr2 wr1 encHdr encHdr2
 rw [gB_gT (gB_len g), arrB_told h ho]
theorem OR.ext {e : TypeId} {sz : Nat} {w0 w : World} {S : List Nat} {L : List Ent} {D : Option Addr} {n cap : Nat} {xs : List Value} (O : OR e sz w0 S w L D n cap xs) : ∃ E : List Ent, (∀ ad, D = some ad → ∃ x ∈ E, x.b = ad.block ∧ x.m = true) ∧ SH w0 S w (E ++ L) := by
 rcases O.own with ⟨rfl, _⟩ | ⟨b, cur, rfl, _, _, _, _, h6⟩
 ·exact ⟨[], fun ad h => (by cases h), O.sh⟩
 ·refine ⟨[⟨b, .cells cur.toArray e (0, 0), true⟩], fun ad h => ?_, h6⟩
  cases h
  exact ⟨_, .head _, rfl, rfl⟩
theorem SH.notin {w0 w : World} {S : List Nat} {E M : List Ent} (H : SH w0 S w (E ++ M)) {D : Option Addr} (hE : ∀ ad, D = some ad → ∃ x ∈ E, x.b = ad.block ∧ x.m = true) : ∀ ad, D = some ad → ad.block ∉ M.map Ent.b := by
 intro ad h hm
 obtain ⟨x, hx, e1, e2⟩ := hE ad h
 obtain ⟨y, hy, e3⟩ := List.mem_map.1 hm
 exact (List.pairwise_append.1 H.ap).2.2 x hx y hy (by simp [e2]) (e1.trans e3.symm)
theorem perm_rot3 (a b c : Ent) (X E : List Ent) : (a :: b :: c :: (X ++ E)).Perm (E ++ (c :: b :: a :: X)) := by
 have h1 : (a :: b :: c :: (X ++ E)).Perm (c :: b :: a :: (X ++ E)) :=
  ((List.Perm.swap b a _).trans ((List.Perm.swap c a _).cons b)).trans (List.Perm.swap c b _)
 exact h1.trans (List.perm_append_comm (l₁ := c :: b :: a :: X) (l₂ := E))
theorem perm_bring (E : List Ent) (b c : Ent) (X : List Ent) : (E ++ (b :: c :: X)).Perm (c :: b :: (X ++ E)) := by
 have h1 : (E ++ (b :: c :: X)).Perm ((b :: c :: X) ++ E) := List.perm_append_comm
 exact h1.trans (List.Perm.swap c b _)
end Go.Proofs.YthcaejaaalkglaaGreatDoor.X
/- Walks of functions, printed by a program of this claim. -/
namespace Go.Proofs.YthcaejaaalkglaaGreatDoor.X
set_option linter.unusedVariables false
set_option linter.unusedSimpArgs false
open Go Go.RowKit
namespace PF
theorem ca32 : callable Tryz.prog 32 = true := by kernel_rfl
end PF
open PF
set_option maxRecDepth 100000 in
set_option maxHeartbeats 4000000 in
theorem c_gptRepair (w : World) (B : Option Addr) (cB n N : Nat) (ds : List UInt8) (g : List UInt8) (ps : List GP) (hn : 80 ≤ n ∧ n ≤ 1000) (hN : n ≤ N ∧ N ≤ 2000) (S : Stands ds n g ps) (hR : RB w B (n * 512) ds) (hgl : goodL n ps) (hok : ∀ p ∈ ps, p.ok) (hft : ∀ p ∈ ps, p.fit) : Calls Tryz.prog 13 #[.slice B (n * 512) cB, .int .i64 512, .int .u64 ((N * 512 : Nat) : Int)] w (Ret fun v w' => ∃ b cap J f1 f2, v = .tuple #[.slice (some ⟨b, 0, none⟩) (N * 512) cap, .bool true] ∧ N * 512 ≤ cap ∧ SH w [] w' [⟨b, .cells (Bs (wrB (ds ++ List.replicate ((N - n) * 512) 0) N g ps ++ J)).toArray 5 (f1, f2), true⟩] ∧ (f2 = 0 ∨ N * 512 ≤ f1)) := by
 refine enter (fun ρ => .tuple #[ρ 6, ρ 7]) Tryz.func13 rfl rfl rfl (res2 rfl) ?_
 have H := SH.nil w
 have hdl := S.len
 obtain ⟨L1, L4, L5, L6, L7, L8⟩ := S.read ⟨hn.1, by omega⟩
 have hgN := goodL_told hgl hok (by omega) hN.1
 have hokN := ok_laid hgl hok (by omega)
 have hftN := fit_told hgl hok hft
 have hfsN : ∀ p ∈ ps.map gpP, p.fits := fun p hp => (hgN.1 p hp).fits
 refine sq ?_
 refine rg ?_
 refine asg (v := .slice _ _ _) rfl rfl ?_
 refine asg (v := .bool _) rfl rfl ?_
 refine nl ?_
 refine then_n ?_
 refine sq ?_
 refine rg ?_
 refine mv (v := .slice _ _ _) rfl rfl ?_
 refine cvBS rfl (by exact hR.keep H.fr) Tryz.underlying30 Tryz.underlying5 Tryz.underlying9 rfl ?_
 refine cl ca30 (c_memoryOf _ ds (by omega)) rfl ?_
 rintro _ w1 ⟨bm, bd, cm, rfl, hcm, K⟩
 replace H := H.join K (by simp); simp only [List.cons_append, List.nil_append] at H; clear K
 refine asg (v := .pointer _) rfl rfl ?_
 refine nl ?_
 refine then_n ?_
 refine sq ?_
 refine rg ?_
 refine mv (v := .pointer _) rfl rfl ?_
 refine mv (v := .int .i64 _) rfl rfl ?_
 refine cl ca31 (c_implRead _ bm bd ds.length cm _ _ _ ds (H.look (b := bm)) (RB.pre H) (H.ne_of rfl (y := ⟨bd, _, true⟩) (by repeat (first | exact .head _ | apply List.Mem.tail))) (by omega) hcm (n - 1) (n - 33) (by omega) (by omega) L4 L5 L6 L7) rfl ?_
 rintro _ w2 ⟨F, ⟨x9, hm9⟩, A9, rfl, hr1, hr2⟩
 rw [L1, Bool.true_or]
 obtain ⟨p, rfl, D, cap, l, k1, k2, K⟩ := hr1 L1
 clear hr1 hr2
 have hlb := K.sh.tabNe hm9 (by decide) (by decide)
 have hDb : ∀ ad, D = some ad → ad.block ≠ bm := fun ad e => by
  subst e
  obtain ⟨q9, cur, rfl, _, _, _, _, h6⟩ := K.blk
  exact ne_kind (h6.get _ (.head _)) hm9 (by decide)
 have hb9 := lt_of_at (H.look (b := bm))
 have H1 := SH.based (b := bm) (o' := .cells ([.slice (some ⟨bd, 0, none⟩) ds.length cm, x9, .bool false, .slice none 0 0] : List Value).toArray 76 (0, 0)) H hb9
 have O := (K.reb hb9 hm9 hlb hDb).joinN H1 (fun x hx => ents_m1 x hx)
 simp only [List.cons_append, List.nil_append] at O
 replace H := O.sh
 clear K H1
 refine mv (v := .tuple _) rfl rfl ?_
 refine xt rfl rfl rfl ?_
 refine xt rfl rfl rfl ?_
 refine asg (v := .pointer _) rfl rfl ?_
 refine asg (v := .bool _) rfl rfl ?_
 refine nl ?_
 refine then_n ?_
 refine sq ?_
 refine sq ?_
 refine rg ?_
 refine mv (v := .bool _) rfl rfl ?_
 refine unot rfl rfl ?_
 refine mv (v := .bool _) rfl rfl ?_
 refine spL (t := 23) (b := false) rfl ?_
 refine gy rfl ?_
 refine mv (v := .int .u64 _) rfl rfl ?_
 refine gy rfl ?_
 refine gtr rfl rfl rfl ?_
 refine pkF (v := .bool _) rfl rfl rfl ?_
 refine mv (v := .bool _) rfl rfl ?_
 refine spF (t := 27) rfl (by omega) ?_
 refine gy rfl ?_
 refine mv (v := .int .u64 _) rfl rfl ?_
 refine gy rfl ?_
 refine mv (v := .int .i64 _) rfl rfl ?_
 refine gy rfl ?_
 refine cvi rfl rfl Tryz.underlying28 (by first | exact w_u64 (by omega) | exact w_u64 (rng_u64 _) | exact m_u64 _) rfl ?_
 refine gy rfl ?_
 refine mul rfl rfl (by first | exact w_u64 (by omega) | exact w_u64 (rng_u64 _) | exact m_u64 _) rfl ?_
 refine gy rfl ?_
 refine lss rfl rfl rfl ?_
 refine pkF (v := .bool _) rfl rfl rfl ?_
 refine mv (v := .bool _) rfl rfl ?_
 refine spF (t := 34) rfl (by omega) ?_
 refine gy rfl ?_
 refine mv (v := .pointer _) rfl rfl ?_
 refine gy rfl ?_
 refine mv (v := .int .u64 _) rfl rfl ?_
 refine gy rfl ?_
 refine cl ca32 (c_repair _ p D l.length cap _ _ _ _ _ _ _ _ _ N ⟨by omega, by omega⟩ (H.look (b := p))) rfl ?_
 rintro _ w3 ⟨rfl, F, hnew⟩
 replace O := O.put (b := p) F hnew; replace H := O.sh; clear F hnew
 refine gy rfl ?_
 refine neqI0 rfl Tryz.underlying73 rfl ?_
 refine pkF (v := .bool _) rfl rfl rfl ?_
 refine nl ?_
 refine then_n ?_
 refine cbF rfl rfl ?_
 refine sk ?_
 refine then_n ?_
 refine sq ?_
 refine rg ?_
 refine mv (v := .int .u64 _) rfl rfl ?_
 refine cvi rfl rfl Tryz.underlying3 (by first | exact w_i64 (by omega) | exact w_i64 (rng_i64 _) | rfl) rfl ?_
 refine mv (v := .pointer _) rfl rfl ?_
 refine nc rfl rfl ?_
 refine fa rfl fo76_0 rfl ?_
 refine ld H rfl sc30 rfl rfl ?_
 refine lnS rfl Tryz.underlying30 rfl ?_
 refine min2 rfl rfl rfl ?_
 rw [show min ((N * 512 : Nat) : Int) ((ds.length : Nat) : Int) = ((n * 512 : Nat) : Int) by omega]
 refine asg (v := .int .i64 _) rfl rfl ?_
 refine nl ?_
 refine then_n ?_
 refine sq ?_
 refine rg ?_
 obtain ⟨hrowA, hD2⟩ := OR.tab (A := [_, _]) O
 obtain ⟨E, hE, HE⟩ := O.ext
 have hs0 := k1.trans (usedC_P _ _)
 rw [S.a1, used_laid hgl] at hs0
 rw [S.u1, L8, S.m1, S.i1] at HE
 clear H O; have H := (HE.perm (perm_bring E _ _ _)).swap; clear HE
 refine mv (v := .pointer _) rfl rfl ?_
 refine mv (v := .pointer _) rfl rfl ?_
 refine nc rfl rfl ?_
 refine fa rfl fo76_0 rfl ?_
 refine ld H rfl sc30 rfl rfl ?_
 refine mv (v := .int .i64 _) rfl rfl ?_
 refine mv (v := .int .i64 _) rfl rfl ?_
 refine slhm (n * 512) (n * 512) rfl rfl rfl Tryz.underlying30 sz5_1 (by omega) (by omega) rfl ?_
 refine mv (v := .int .u64 _) rfl rfl ?_
 refine cvi rfl rfl Tryz.underlying3 (by first | exact w_i64 (by omega) | exact w_i64 (rng_i64 _) | rfl) rfl ?_
 refine mv (v := .int .i64 _) rfl rfl ?_
 refine sub (c := (((N - n) * 512 : Nat) : Int)) rfl rfl (by rw [w_i64 (by omega)]; omega) rfl ?_
 refine apK (ds := ds) ((N - n) * 512) H.swap hdl rfl rfl Tryz.underlying30 Tryz.underlying3 ri5 (by omega) rfl ?_
 rintro q9 c9 Z9 ⟨f1, f2⟩ w4 hc9 hfr9 FA H9
 clear H; have H := H9; clear H9
 rw [show n * 512 + (N - n) * 512 = N * 512 by omega] at hc9 ⊢
 refine nc rfl rfl ?_
 refine fa rfl fo76_0 rfl ?_
 refine st (v := .slice _ _ _) H rfl rfl sc30 rfl (by show 0 + 0 < 4; decide) (by omega) ?_
 clear H; intro w5 H F5
 refine nl ?_
 refine then_n ?_
 refine sq ?_
 refine rg ?_
 have hrowB := row_same rfl hrowA [] FA (fun _ _ => by simp)
 have hrowC := row_same rfl hrowB [bm] F5 (fun ad e => by simpa using hDb ad e)
 have hneq : bm ≠ q9 := fun e => H.ne_of rfl (y := ⟨bm, _, true⟩) (.head _) e.symm
 have hbq := lt_of_at (H.look (b := q9))
 have HP := H.perm (perm_rot3 _ _ _ _ E)
 have hDC := HP.notin hE
 have hfz : f2 = 0 ∨ N * 512 ≤ f1 := by
  rcases hfr9 with ⟨e, e2⟩ | e
  ·injection e with e3 e4; exact .inr (by omega)
  ·injection e with e3 e4; exact .inl e4
 refine mv (v := .pointer _) rfl rfl ?_
 refine mv (v := .pointer _) rfl rfl ?_
 refine mi (v := .pointer _) rfl cc67 rfl ?_
 refine mv (v := .int .u64 _) rfl rfl ?_
 refine cvi rfl rfl Tryz.underlying2 (by first | exact w_i64 (by omega) | exact w_i64 (rng_i64 _) | rfl) rfl ?_
 refine cl ca33 (c_writeP _ (List.map Ent.b (_ :: _ :: _ :: ents 126 l)) p bm q9 c9 f1 f2 x9 (.slice none 0 0) 5 (ds ++ List.replicate ((N - n) * 512) 0 ++ Z9) D l.length cap (gT (gB g)) false _ _ N ⟨by omega, by omega⟩ l (ps.map gpP) (.int .i64 512) (.int .i64 512) hs0 rfl hrowC hDC (fun ad e => (hD2 ad e).2.1) hgN hokN hftN (by omega) (gT_ok (gB_len g)).1 (by rw [List.length_append, List.length_append, List.length_replicate]; omega) hc9 hneq hbq hfz _ (SH.base (A := E) HP)) rfl ?_
 rintro _ w5 ⟨rfl, K⟩
 rw [wrB_app (by omega) (by rw [List.length_append, List.length_replicate]; omega) hfsN, wrB_told _ hgl hok] at K
 have H5 := SH.call (A := E) HP K (fun s hs => by obtain ⟨x, hx, rfl⟩ := List.mem_map.1 hs; exact ⟨x, hx, rfl, by rcases List.mem_cons.1 hx with rfl | hx; rfl; rcases List.mem_cons.1 hx with rfl | hx; rfl; rcases List.mem_cons.1 hx with rfl | hx; rfl; exact ents_m x hx⟩) (by simp)
 replace H := H5.sub (List.sublist_append_right _ _); clear K HP H5
 refine asg (v := .nilIface) rfl rfl ?_
 refine nl ?_
 refine then_n ?_
 refine sq ?_
 refine dr (by kernel_rfl) ?_
 have H := H.drew
 refine hold (fun _ => True) [] ?_
 refine tk (i := 0) rfl (by kernel_rfl) rfl trivial (fun _ _ => r_mv (v := .pointer _) rfl) ?_
 refine tk (i := 1) rfl (by kernel_rfl) rfl trivial (fun _ _ => r_nc rfl) ?_
 refine tk (i := 2) rfl (by kernel_rfl) rfl trivial (fun _ _ => r_fa rfl fo76_0) ?_
 refine tk (i := 4) rfl (by kernel_rfl) rfl trivial (fun _ _ => r_mv (v := .nilIface) rfl) ?_
 refine tk (i := 5) rfl (by kernel_rfl) rfl trivial (fun _ _ => r_eqlI0 rfl Tryz.underlying73) ?_
 refine unfree ?_
 refine holdH H [] ?_
 refine tk (i := 3) rfl (by kernel_rfl) rfl H (fun w' H => r_ld H rfl sc30 rfl) ?_
 refine tk (i := 6) rfl (by kernel_rfl) rfl H (fun w' H => r_asg (v := .slice _ _ _) rfl) ?_
 refine tk (i := 7) rfl (by kernel_rfl) rfl H (fun w' H => r_asg (v := .bool _) rfl) ?_
 refine da (by kernel_rfl) ?_
 refine then_n ?_
 refine rt ?_
 refine fin_r ?_
 exact ⟨q9, c9, Z9, f1, f2, rfl, hc9, H.subX, hfz⟩
end Go.Proofs.YthcaejaaalkglaaGreatDoor.X
/- Walks of functions, printed by a program of this claim. -/
namespace Go.Proofs.YthcaejaaalkglaaGreatDoor.X
set_option linter.unusedVariables false
set_option linter.unusedSimpArgs false
open Go Go.RowKit
namespace PF
theorem ca13 : callable Tryz.prog 13 = true := by kernel_rfl
end PF
open PF
set_option maxRecDepth 100000 in
set_option maxHeartbeats 4000000 in
theorem c_FnGptRepairs (w : World) (D : Option Addr) (m c : Nat) (sec : Int) (g : List UInt8) (pr rc : Bool) (ps : List GP) (hq : RG w D m c ps) (hU : Utf8W w) (x y : Int) (hx : 0 ≤ x ∧ x ≤ 65535) (hy : 0 ≤ y ∧ y ≤ 255) : Calls Tryz.prog 3 #[.agg (gtCells D m c sec g pr rc).toArray, .int .u16 x, .int .u8 y] w (Ret fun v w' => v = .bool true ∧ Fr [] w w') := by
 refine enter (fun ρ => ρ 6) Tryz.func3 rfl rfl rfl (res1 rfl) ?_
 have H := SH.nil w
 have hql := hq.len
 obtain ⟨n, hnn⟩ : ∃ n : Nat, (n : Int) = 80 + x % 200 := ⟨(80 + x % 200).toNat, by omega⟩
 have hn : 80 ≤ n ∧ n ≤ 1000000 := by omega
 have hnb : n ≤ 1000 := by omega
 obtain ⟨N, hN⟩ : ∃ N : Nat, (N : Int) = n + y := ⟨((n : Int) + y).toNat, by omega⟩
 have hnN : n ≤ N ∧ N ≤ 600 := by omega
 refine sq ?_
 refine rg ?_
 refine bx (v := .agg _) H rfl rfl rfl ?_
 clear H; intro b1 w1 hb1 H _
 refine asg (v := .bool _) rfl rfl ?_
 refine nl ?_
 refine then_n ?_
 refine sq ?_
 refine sq ?_
 refine rg ?_
 refine la H rfl ag24_5 rfl rfl rfl ?_
 refine cl ca8 (c_fits5 _ D m c sec g pr rc ps (hq.keep H.fr)) rfl ?_
 rintro _ w2 ⟨g5, rfl, g5h, F⟩
 replace H := H.keep F; clear F
 refine unot rfl rfl ?_
 refine nl ?_
 refine then_n ?_
 refine cn rfl (fun hc1 => ?_) (fun hc1 => ?_)
 ·refine sq ?_
  refine rg ?_
  refine asg (v := .bool _) rfl rfl ?_
  refine nl ?_
  refine then_n ?_
  refine rt ?_
  refine then_r ?_
  refine fin_r ?_
  exact ⟨rfl, H.fr⟩
 ·have h5 := g5h (by simpa using hc1)
  refine sk ?_
  refine then_n ?_
  refine sq ?_
  refine rg ?_
  refine mv (v := .int .u16 _) rfl rfl ?_
  refine cvi rfl rfl Tryz.underlying3 (by first | exact w_i64 (by omega) | exact w_i64 (rng_i64 _) | rfl) rfl ?_
  refine rem rfl rfl (by omega) (by omega) rfl rfl ?_
  refine add (c := (n : Int)) rfl rfl (by rw [w_i64 (by omega)]; omega) rfl ?_
  refine asg (v := .int .i64 _) rfl rfl ?_
  refine nl ?_
  refine then_n ?_
  refine sq ?_
  refine rg ?_
  refine fa rfl fo24_1 rfl ?_
  refine st (v := .int .i64 _) H rfl rfl sc3 rfl (by show 0 + 1 < 5; decide) (by omega) ?_
  clear H; intro w91 H _
  refine fa rfl fo24_3 rfl ?_
  refine st (v := .bool _) H rfl rfl sc4 rfl (by show 0 + 3 < 5; decide) (by omega) ?_
  clear H; intro w92 H _
  refine nl ?_
  refine then_n ?_
  refine sq ?_
  refine sq ?_
  refine rg ?_
  replace H := sh_cells0 (cs' := gtCells D m c 512 g true rc) H rfl
  refine la (vs := gtCells D m c 512 g true rc) H rfl ag24_5 rfl rfl rfl ?_
  refine mv (v := .int .i64 _) rfl rfl ?_
  refine cvi rfl rfl Tryz.underlying28 (by first | exact w_u64 (by omega) | exact w_u64 (rng_u64 _) | exact m_u64 _) rfl ?_
  refine cl ca9 (c_good _ D m c g true rc ps (hq.keep H.fr) (hU.keep H.fr) n hn h5.2.2) rfl ?_
  rintro _ w3 ⟨gg, rfl, F, hgg⟩
  replace H := H.keep F; clear F
  refine unot rfl rfl ?_
  refine nl ?_
  refine then_n ?_
  refine cn rfl (fun hc2 => ?_) (fun hc2 => ?_)
  ·refine sq ?_
   refine rg ?_
   refine cl ca10 (c_awake _) rfl ?_
   rintro _ w4 ⟨rfl, F⟩
   replace H := H.keep F; clear F
   refine asg (v := .bool _) rfl rfl ?_
   refine nl ?_
   refine then_n ?_
   refine rt ?_
   refine then_r ?_
   refine fin_r ?_
   exact ⟨rfl, H.fr⟩
  ·obtain ⟨hgu, hm, hgl⟩ := hgg (by simpa using hc2)
   have hfs : ∀ p ∈ ps, p.fits := fun p hp => (hgl.1 p hp).fits
   have hn6 : n ≤ 1000000 := hn.2
   have hoks := hq.ok
   have hgo := ok_laid hgl hoks hn6
   have hft := h5.2.2
   refine sk ?_
   refine then_n ?_
   refine sq ?_
   refine rg ?_
   refine mv (v := .int .i64 _) rfl rfl ?_
   refine cl ca11 (c_partDisk _ n 512 0 (by omega) (by omega) (by omega)) rfl ?_
   rintro _ w5 ⟨bd, ds, rfl, hdl, hb1, ho1, F⟩
   replace H := H.new F hb1 ho1; clear F ho1
   refine asg (v := .slice _ _ _) rfl rfl ?_
   refine nl ?_
   refine then_n ?_
   refine sq ?_
   refine rg ?_
   refine mv (v := .slice _ _ _) rfl rfl ?_
   refine la (vs := gtCells D m c 512 g true rc) H rfl ag24_5 rfl rfl rfl ?_
   refine cl ca12 (c_gptEncode _ bd n (n * 512) _ ds D m c g rc ps (H.look (b := bd)) (by omega) (by omega) hdl (hq.keep H.fr) (by omega) (fun p hp => ⟨hft p hp, hfs p hp⟩)) rfl ?_
   rintro _ w6 ⟨rfl, hlen, F, hnew⟩
   replace H := H.put (b := bd) F hnew; clear F hnew
   have S0 := stands_enc (g := g) hn hdl hfs
   generalize encB ds n g ps = E at H S0
   have hEl := S0.len
   clear hlen
   refine nl ?_
   refine then_n ?_
   refine sq ?_
   refine rg ?_
   refine mv (v := .slice _ _ _) rfl rfl ?_
   refine mv (v := .int .i64 _) rfl rfl ?_
   refine mv (v := .int .u8 _) rfl rfl ?_
   refine cvi rfl rfl Tryz.underlying3 (by first | exact w_i64 (by omega) | exact w_i64 (rng_i64 _) | rfl) rfl ?_
   refine add (c := (N : Int)) rfl rfl (by rw [w_i64 (by omega)]; omega) rfl ?_
   refine cvi rfl rfl Tryz.underlying28 (by first | exact w_u64 (by omega) | exact w_u64 (rng_u64 _) | exact m_u64 _) rfl ?_
   refine mul (c := ((N * 512 : Nat) : Int)) rfl rfl (by rw [w_u64 (by omega)]; omega) rfl ?_
   refine cl ca13 (c_gptRepair _ (some ⟨bd, 0, none⟩) (n * 512) n N E g ps ⟨hn.1, hnb⟩ ⟨by omega, by omega⟩ S0 (RB.allm (b := bd) H S0.len) hgl hoks hft) rfl ?_
   rintro _ w7 ⟨bx, cm, J, f1, f2, rfl, hcm, K, hfz⟩
   replace H := H.join K (by simp); simp only [List.cons_append, List.nil_append] at H; clear K
   have hEz : (E ++ List.replicate ((N - n) * 512) 0).length = N * 512 := by rw [List.length_append, List.length_replicate]; omega
   have S9 := stands_wr (g := g) (n := N) (by omega) hEz hfs
   have hwl := S9.len
   obtain ⟨hm11, hm12, hm13⟩ := S9.mbr (Z := J) (by omega)
   obtain ⟨hm21, hm22, hm23⟩ := S9.mbr2 (Z := J) (by omega)
   obtain ⟨y1, y2, y3, y4⟩ := S9.gat (Z := J) (by omega)
   obtain ⟨x1, x2, x3, x4, x5⟩ := S9.gat2 (Z := J) (by omega)
   generalize wrB (E ++ List.replicate ((N - n) * 512) 0) N g ps = W at H hwl hm11 hm12 hm13 hm21 hm22 hm23 y1 y2 y3 y4 x1 x2 x3 x4 x5
   refine mv (v := .tuple _) rfl rfl ?_
   refine xt rfl rfl rfl ?_
   refine xt rfl rfl rfl ?_
   refine asg (v := .slice _ _ _) rfl rfl ?_
   refine asg (v := .bool _) rfl rfl ?_
   refine nl ?_
   refine then_n ?_
   refine sq ?_
   refine sq ?_
   refine rg ?_
   refine mv (v := .bool _) rfl rfl ?_
   refine unot rfl rfl ?_
   refine mv (v := .bool _) rfl rfl ?_
   refine spL (t := 46) (b := false) rfl ?_
   refine gy rfl ?_
   refine mv (v := .slice _ _ _) rfl rfl ?_
   refine gy rfl ?_
   refine lnS rfl Tryz.underlying30 rfl ?_
   refine gy rfl ?_
   refine mv (v := .int .i64 _) rfl rfl ?_
   refine gy rfl ?_
   refine mv (v := .int .u8 _) rfl rfl ?_
   refine gy rfl ?_
   refine cvi rfl rfl Tryz.underlying3 (by first | exact w_i64 (by omega) | exact w_i64 (rng_i64 _) | rfl) rfl ?_
   refine gy rfl ?_
   refine add (c := (N : Int)) rfl rfl (by rw [w_i64 (by omega)]; omega) rfl ?_
   refine gy rfl ?_
   refine mul (c := ((N * 512 : Nat) : Int)) rfl rfl (by rw [w_i64 (by omega)]; omega) rfl ?_
   refine gy rfl ?_
   refine neq rfl rfl rfl ?_
   refine pkF (v := .bool _) rfl rfl rfl ?_
   refine nl ?_
   refine then_n ?_
   refine cF rfl (by simp) ?_
   refine sk ?_
   refine then_n ?_
   refine sq ?_
   refine rg ?_
   refine mv (v := .slice _ _ _) rfl rfl ?_
   refine cl ca14 (c_gptDecode _ bx N cm 5 (f1, f2) (W ++ J) (H.look (b := bx)) (by omega) (by rw [List.length_append]; omega) hcm hm11 hm12) rfl ?_
   rintro _ w8 ⟨D7, m7, cap7, s7, g7, X7, a7, rb7, b7, rfl, O7, hcs, hbb, hI⟩
   obtain ⟨h1, rfl, rfl⟩ := hcs.resolve_right (fun h => by rw [y1] at h; cases h.1)
   rw [y1] at hbb; subst hbb
   obtain ⟨k, hk, hkn, rfl, rfl, rfl, rfl⟩ := hI.1 y1
   obtain rfl : k = 2 := by rw [y2] at hk; omega
   rw [y3, used_laid hgl] at O7 ⊢
   rw [y4, hm13]
   replace O7 := O7.joinN H (by simp)
   simp only [List.append_nil] at O7
   replace H := O7.sh
   refine mv (v := .tuple _) rfl rfl ?_
   refine xt rfl rfl rfl ?_
   refine xt rfl rfl rfl ?_
   refine al H ze24 rfl ?_
   intro b2 w9 hb2 H1 F; replace O7 := O7.new F hb2 H1.look; clear H H1 F; have H := O7.sh
   refine sa (cs' := gtCells D7 (ps.map gpP).length cap7 512 (gT (gB g)) true false) H rfl rfl ag24_5 rfl rfl (by show 0 + 5 ≤ 5; decide) (by omega) rfl ?_
   intro w93 H1 F; replace O7 := O7.put F H1.look; clear H H1 F; have H := O7.sh
   refine asg (v := .bool _) rfl rfl ?_
   refine nl ?_
   refine then_n ?_
   refine sq ?_
   refine sq ?_
   refine rg ?_
   refine mv (v := .bool _) rfl rfl ?_
   refine unot rfl rfl ?_
   refine mv (v := .bool _) rfl rfl ?_
   refine spL (t := 63) (b := false) rfl ?_
   refine gy rfl ?_
   refine fa rfl fo24_4 rfl ?_
   refine gy rfl ?_
   refine ld H rfl sc4 rfl rfl ?_
   refine pkF (v := .bool _) rfl rfl rfl ?_
   refine mv (v := .bool _) rfl rfl ?_
   refine spL (t := 67) (b := false) rfl ?_
   refine gy rfl ?_
   refine la (vs := gtCells D7 (ps.map gpP).length cap7 512 (gT (gB g)) true false) H rfl ag24_5 rfl rfl rfl ?_
   refine gy rfl ?_
   refine la (vs := gtCells D m c 512 g true rc) H rfl ag24_5 rfl rfl rfl ?_
   refine gy rfl ?_
   refine cl ca15 (c_sameGpt _ D7 D _ cap7 m c (gT (gB g)) g _ _ _ _ (ps.map gpP) ps (RG.of_own O7 hgo) (hq.keep H.fr) (by simp; omega)) rfl ?_
   rintro _ w10 ⟨rfl, F⟩
   replace H := H.keep F; replace O7 := O7.keep F; clear F
   rw [same_laid hgu hgl hoks hn6]
   refine gy rfl ?_
   refine unot rfl rfl ?_
   refine pkF (v := .bool _) rfl rfl rfl ?_
   refine nl ?_
   refine then_n ?_
   refine cbF rfl rfl ?_
   refine sk ?_
   refine then_n ?_
   refine sq ?_
   refine rg ?_
   refine mv (v := .slice _ _ _) rfl rfl ?_
   refine iBN ⟨bx, 512, none⟩ rfl rfl Tryz.underlying30 sz5_1 (by omega) rfl rfl ?_
   refine stb (o := 512) (a := 0) H rfl rfl sc5 (by decide) (by rw [List.length_append, hwl]; omega) (by omega) ?_
   clear H; intro w97 H _
   have e80 : b8 0 = 0 := by decide
   rw [e80] at H
   have hEl2 : N * 512 ≤ ((W ++ J).set 512 0).length := by rw [List.length_set, List.length_append]; omega
   generalize (W ++ J).set 512 0 = V at H hEl2 x1 x2 x3 x4 x5 hm21 hm22 hm23
   refine nl ?_
   refine then_n ?_
   refine sq ?_
   refine rg ?_
   refine mv (v := .slice _ _ _) rfl rfl ?_
   refine cl ca14 (c_gptDecode _ bx N cm 5 (f1, f2) (V) (H.look (b := bx)) (by omega) (by exact hEl2) hcm hm21 hm22) rfl ?_
   rintro _ w11 ⟨D8, m7, cap8, s7, g7, X7, a7, rb7, b7, rfl, O8, hcs, hbb, hI⟩
   obtain ⟨h1, rfl, rfl⟩ := hcs.resolve_left (fun h => by rw [x1] at h; cases h.1)
   rw [x2] at hbb; subst hbb
   obtain ⟨k, hk, hkn, rfl, rfl, rfl, rfl⟩ := hI.1 x2
   obtain rfl : k = N - 33 := by rw [x3] at hk; omega
   rw [x4, used_laid hgl] at O8 ⊢
   rw [x5, hm23]
   replace O8 := O8.joinN H (by simp)
   simp only [List.append_nil] at O8
   replace H := O8.sh
   refine mv (v := .tuple _) rfl rfl ?_
   refine xt rfl rfl rfl ?_
   refine xt rfl rfl rfl ?_
   refine sa (cs' := gtCells D8 (ps.map gpP).length cap8 512 (gT (gB g)) true true) H rfl rfl ag24_5 rfl rfl (by show 0 + 5 ≤ 5; decide) (by omega) rfl ?_
   intro w94 H1 F; replace O8 := O8.put F H1.look; clear H H1 F; have H := O8.sh
   refine asg (v := .bool _) rfl rfl ?_
   refine nl ?_
   refine then_n ?_
   refine sq ?_
   refine rg ?_
   refine mv (v := .bool _) rfl rfl ?_
   refine mv (v := .bool _) rfl rfl ?_
   refine spL (t := 81) (b := true) rfl ?_
   refine gy rfl ?_
   refine fa rfl fo24_4 rfl ?_
   refine gy rfl ?_
   refine ld H rfl sc4 rfl rfl ?_
   refine pkT (v := .bool _) rfl rfl rfl ?_
   refine mv (v := .bool _) rfl rfl ?_
   refine spL (t := 85) (b := true) rfl ?_
   refine gy rfl ?_
   refine la (vs := gtCells D8 (ps.map gpP).length cap8 512 (gT (gB g)) true true) H rfl ag24_5 rfl rfl rfl ?_
   refine gy rfl ?_
   refine la (vs := gtCells D m c 512 g true rc) H rfl ag24_5 rfl rfl rfl ?_
   refine gy rfl ?_
   refine cl ca15 (c_sameGpt _ D8 D _ cap8 m c (gT (gB g)) g _ _ _ _ (ps.map gpP) ps (RG.of_own O8 hgo) (hq.keep H.fr) (by simp; omega)) rfl ?_
   rintro _ w12 ⟨rfl, F⟩
   replace H := H.keep F; replace O8 := O8.keep F; clear F
   rw [same_laid hgu hgl hoks hn6]
   refine pkT (v := .bool _) rfl rfl rfl ?_
   refine mv (v := .bool _) rfl rfl ?_
   refine spL (t := 90) (b := true) rfl ?_
   refine gy rfl ?_
   refine cl ca10 (c_awake _) rfl ?_
   rintro _ w13 ⟨rfl, F⟩
   replace H := H.keep F; replace O8 := O8.keep F; clear F
   refine pkT (v := .bool _) rfl rfl rfl ?_
   refine asg (v := .bool _) rfl rfl ?_
   refine nl ?_
   refine then_n ?_
   refine rt ?_
   refine fin_r ?_
   exact ⟨rfl, H.fr⟩
end Go.Proofs.YthcaejaaalkglaaGreatDoor.X
