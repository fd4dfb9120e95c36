/- Laws and walks on the road to the statement: P10, P11, P12, P13, P14, Dec16, P15. -/
import Derived.Test.YthcaejaaalkglaaM5
/- Walks of functions, printed by a program of this claim. -/
namespace Go.Proofs.Ythcaejaaalkglaa.X
set_option linter.unusedVariables false
set_option linter.unusedSimpArgs false
open Go Go.RowKit

namespace P10
theorem ca34 : callable Try.prog 34 = true := by kernel_rfl
theorem sc23 : scalarB Try.prog 23 = true := by kernel_rfl
theorem sc3 : scalarB Try.prog 3 = true := by kernel_rfl
theorem sc5 : scalarB Try.prog 5 = true := by kernel_rfl
theorem sz5_1 : sizeB Try.prog 5 1 = true := by kernel_rfl

end P10
open P10

set_option maxRecDepth 100000 in
set_option maxHeartbeats 1000000 in
theorem c_fits1 (w : World) (bD bA : Nat) (B : Option Addr) (L c a k n : Nat) (ds : List UInt8) (hD : w.cell? ⟨bD, 0, none⟩ = some (.slice B L c)) (hA : w.cell? ⟨bA, 0, none⟩ = some (.int .i64 (a : Int))) (hq : RB w B L ds) (hL : L ≤ 1000000000) (hn : a + k + n ≤ L) (hn8 : n ≤ 8) : Calls Try.prog 34 #[.int .i64 (k : Int), .int .i64 (n : Int), .pointer (some ⟨bD, 0, none⟩), .pointer (some ⟨bA, 0, none⟩)] w (Ret fun v w' => v = .int .u64 (leV ((ds.drop (a + k)).take n)) ∧ Fr [] w w') := by
  refine enter (fun ρ => ρ 6) Try.func34 rfl rfl rfl (res1 rfl) ?_
  have H := SH.nil w
  have hql := hq.1
  refine sq ?_
  refine rg ?_
  refine asg (v := .int .u64 _) rfl rfl ?_
  refine nl ?_
  refine then_n ?_
  refine sq ?_
  refine sq ?_
  refine rg ?_
  refine mv (v := .int .i64 _) rfl rfl ?_
  refine sub rfl rfl (by first | exact w_i64 (by omega) | exact w_i64 (rng_i64 _) | rfl) rfl ?_
  refine asg (v := .int .i64 _) rfl rfl ?_
  refine nl ?_
  refine then_n ?_
  refine bk ?_
  refine lpM (α := Nat) [6, 7, 10, 11, 12, 13, 14, 15, 16, 17, 18, 19, 20, 21, 22, 23, 24, 25] (fun m => [(6, .int .u64 (leV ((ds.drop (a + k + (n - m))).take m))), (7, .int .i64 ((n : Int) - 1 - m))]) (fun m w' => m ≤ n ∧ SH w [] w' []) (fun m => n - m) 0 ?_ (fC (by first | rfl | exact congrArg (Value.int _) (by first | omega | assumption | (symm; assumption) | (simp; done) | (simp; omega)) | exact congrArg (fun n => Value.slice _ n _) (by first | omega | (simp; done) | (simp; omega))) (fC (by first | rfl | exact congrArg (Value.int _) (by first | omega | assumption | (symm; assumption) | (simp; done) | (simp; omega)) | exact congrArg (fun n => Value.slice _ n _) (by first | omega | (simp; done) | (simp; omega))) (fN _))) ?_   -- loop 1
  · exact ⟨by omega, H⟩
  · rintro m ρx w1 ⟨hm, H⟩
    refine sq ?_
    refine sq ?_
    refine rg ?_
    refine mv (v := .int .i64 _) rfl rfl ?_
    refine geq rfl rfl rfl ?_
    refine nl ?_
    refine then_n ?_
    first | refine cd rfl (fun hc1 => ?_) (fun hc1 => ?_) | refine cn rfl (fun hc1 => ?_) (fun hc1 => ?_)   -- test 1
    · have hl7 := leV_le7 (l := (ds.drop (a + k + (n - m))).take m) (by rw [List.length_take]; omega)
      obtain ⟨ad, rfl, hcell⟩ := hq.2 (a + k + (n - (m + 1))) (by omega)
      have hcell := H.fr.cell hcell (by simp)
      refine sk ?_
      refine then_n ?_
      refine sq ?_
      refine bk ?_
      refine rg ?_
      refine mv (v := .int .u64 _) rfl rfl ?_
      refine shlK (s := 8) (p := 256) rfl rfl (by decide) (by decide) (by first | exact w_u64 (by omega) | exact w_u64 (rng_u64 _) | exact m_u64 _) rfl ?_
      first | refine ld H rfl sc23 rfl rfl ?_ | refine lc rfl (by first | assumption | exact H.fr.cell (by assumption) (by simp)) sc23 rfl ?_ | refine ld H rfl sc23 (by assumption) rfl ?_
      first | refine ld H rfl sc3 rfl rfl ?_ | refine lc rfl (by first | assumption | exact H.fr.cell (by assumption) (by simp)) sc3 rfl ?_ | refine ld H rfl sc3 (by assumption) rfl ?_
      refine mv (v := .int .i64 _) rfl rfl ?_
      refine add rfl rfl (by first | exact w_i64 (by omega) | exact w_i64 (rng_i64 _) | rfl) rfl ?_
      refine mv (v := .int .i64 _) rfl rfl ?_
      refine add rfl rfl (by first | exact w_i64 (by omega) | exact w_i64 (rng_i64 _) | rfl) rfl ?_
      refine iBN (ad.add (a + k + (n - (m + 1)))) rfl rfl Try.underlying23 sz5_1 (by omega) (congrArg ad.add (by omega)) rfl ?_
      first | (refine ldb H rfl sc5 (by omega) rfl ?_; intro hu1) | refine ld H rfl sc5 rfl rfl ?_ | refine lc rfl (by first | assumption | exact H.fr.cell (by assumption) (by simp)) sc5 rfl ?_
      refine cvi rfl rfl Try.underlying30 (by first | exact w_u64 (by omega) | exact w_u64 (rng_u64 _) | exact m_u64 _) rfl ?_
      refine bor (c := leV ((ds.drop (a + k + (n - (m + 1)))).take (m + 1))) rfl rfl (by rw [leV_down (by omega) (by omega)]; exact or64 hl7 (UInt8.toNat_lt _)) rfl ?_
      refine asg (v := .int .u64 _) rfl rfl ?_
      refine nl ?_
      refine in_n ?_
      refine then_n ?_
      refine rg ?_
      refine mv (v := .int .i64 _) rfl rfl ?_
      refine sub rfl rfl (by first | exact w_i64 (by omega) | exact w_i64 (rng_i64 _) | rfl) rfl ?_
      refine asg (v := .int .i64 _) rfl rfl ?_
      refine nl ?_
      refine loop_n ?_
      exact ⟨m + 1, (by (try dsimp only); omega), ⟨by omega, H⟩, (fC (by first | rfl | exact congrArg (Value.int _) (by first | omega | assumption | (symm; assumption) | (simp; done) | (simp; omega)) | exact congrArg (fun n => Value.slice _ n _) (by first | omega | (simp; done) | (simp; omega))) (fC (by first | rfl | exact congrArg (Value.int _) (by first | omega | assumption | (symm; assumption) | (simp; done) | (simp; omega)) | exact congrArg (fun n => Value.slice _ n _) (by first | omega | (simp; done) | (simp; omega))) (fN _))), (by repeat (first | exact Agree.setL rfl Agree.mask | exact Agree.self _ _ | refine Agree.upd rfl ?_ | refine Agree.setL rfl ?_ | refine Agree.mask2 rfl ?_))⟩
    · refine ex ?_
      refine then_e ?_
      refine loop_e ?_
      refine in_hit rfl ?_
      refine then_n ?_
      refine sq ?_
      refine rg ?_
      refine mv (v := .int .u64 _) rfl rfl ?_
      refine asg (v := .int .u64 _) rfl rfl ?_
      refine nl ?_
      refine then_n ?_
      refine rt ?_
      refine fin_r ?_
      obtain rfl : m = n := by omega
      refine ⟨congrArg (Value.int .u64) ?_, H.fr⟩
      rw [Nat.sub_self, Nat.add_zero]

set_option maxRecDepth 100000 in
set_option maxHeartbeats 1000000 in
theorem c_gptFits (w : World) (q L c s a : Nat) (ds : List UInt8) (hq : RB w (some ⟨q, 0, none⟩) L ds) (ha : a + 92 ≤ L) (hL : L ≤ 1000000000) (hc : L ≤ c) (hs : 1 ≤ s ∧ s ≤ 4096) : Calls Try.prog 26 #[.slice (some ⟨q, 0, none⟩) L c, .int .i64 (s : Int), .int .i64 (a : Int)] w (Ret fun v w' => v = .bool (fitsB ds s a) ∧ Fr [] w w') := by
  refine enter (fun ρ => ρ 6) Try.func26 rfl rfl rfl (res1 rfl) ?_
  have H := SH.nil w
  have hql := hq.1
  have hcr := crc32_rng (zHdr (pcs ds a 92))
  have hzl : (zHdr (pcs ds a 92)).length = 92 := zHdr_len (pcs_len (by omega))
  refine sq ?_
  refine rg ?_
  refine bx (v := .slice _ _ _) H rfl rfl rfl ?_
  clear H; intro b1 w1 hb1 H _
  refine bx (v := .int .i64 _) H rfl rfl rfl ?_
  clear H; intro b2 w2 hb2 H _
  refine asg (v := .bool _) rfl rfl ?_
  refine nl ?_
  refine then_n ?_
  refine sq ?_
  refine sq ?_
  refine rg ?_
  first | refine ld H rfl sc3 rfl rfl ?_ | refine lc rfl (by first | assumption | exact H.fr.cell (by assumption) (by simp)) sc3 rfl ?_ | refine ld H rfl sc3 (by assumption) rfl ?_
  refine lss rfl rfl rfl ?_
  refine mv (v := .bool _) rfl rfl ?_
  first | refine spL (t := 13) (b := false) rfl ?_ | refine spF (t := 13) rfl (by omega) ?_   -- guard 1
  refine gy rfl ?_
  first | refine ld H rfl sc3 rfl rfl ?_ | refine lc rfl (by first | assumption | exact H.fr.cell (by assumption) (by simp)) sc3 rfl ?_ | refine ld H rfl sc3 (by assumption) rfl ?_
  refine gy rfl ?_
  refine add rfl rfl (by first | exact w_i64 (by omega) | exact w_i64 (rng_i64 _) | rfl) rfl ?_
  refine gy rfl ?_
  first | refine ld H rfl sc23 rfl rfl ?_ | refine lc rfl (by first | assumption | exact H.fr.cell (by assumption) (by simp)) sc23 rfl ?_ | refine ld H rfl sc23 (by assumption) rfl ?_
  refine gy rfl ?_
  refine lnS rfl Try.underlying23 rfl ?_
  refine gy rfl ?_
  refine gtr rfl rfl rfl ?_
  refine pkF (v := .bool _) rfl rfl rfl ?_
  refine mv (v := .bool _) rfl rfl ?_
  first | refine spL (t := 20) (b := false) rfl ?_ | refine spF (t := 20) rfl (by omega) ?_   -- guard 2
  refine gy rfl ?_
  first | refine ld H rfl sc23 rfl rfl ?_ | refine lc rfl (by first | assumption | exact H.fr.cell (by assumption) (by simp)) sc23 rfl ?_ | refine ld H rfl sc23 (by assumption) rfl ?_
  refine gy rfl ?_
  first | refine ld H rfl sc3 rfl rfl ?_ | refine lc rfl (by first | assumption | exact H.fr.cell (by assumption) (by simp)) sc3 rfl ?_ | refine ld H rfl sc3 (by assumption) rfl ?_
  refine gy rfl ?_
  first | refine ld H rfl sc3 rfl rfl ?_ | refine lc rfl (by first | assumption | exact H.fr.cell (by assumption) (by simp)) sc3 rfl ?_ | refine ld H rfl sc3 (by assumption) rfl ?_
  refine gy rfl ?_
  refine add rfl rfl (by first | exact w_i64 (by omega) | exact w_i64 (rng_i64 _) | rfl) rfl ?_
  refine gy rfl ?_
  refine sllhN (0 + a) (8) (c - a) rfl rfl rfl Try.underlying23 sz5_1 (by omega) (by omega) rfl ?_
  refine gy rfl ?_
  refine cvBS rfl (by have e := ((hq.keep H.fr).drop (k := a) (by omega)).take (k := 8) (by omega); exact e) Try.underlying23 Try.underlying5 Try.underlying9 rfl ?_
  refine gy rfl ?_
  refine neqT (a := pcs ds a 8) (b := efiL) rfl rfl rfl ?_
  refine pkF (v := .bool _) rfl rfl rfl ?_
  refine nl ?_
  refine then_n ?_
  first | refine cd rfl (fun hc1 => ?_) (fun hc1 => ?_) | refine cn rfl (fun hc1 => ?_) (fun hc1 => ?_)   -- test 1
  · refine sq ?_
    refine rg ?_
    refine asg (v := .bool _) rfl rfl ?_
    refine nl ?_
    refine then_n ?_
    refine rt ?_
    refine then_r ?_
    refine fin_r ?_
    exact ⟨congrArg Value.bool (by unfold fitsB sigOk; rw [decide_eq_false (by assumption)]; rfl), H.fr⟩
  · refine sk ?_
    refine then_n ?_
    refine sq ?_
    refine rg ?_
    refine mkf [.pointer _, .pointer _] rfl rfl ?_
    refine asg (v := .func _ _ _) rfl rfl ?_
    refine nl ?_
    refine then_n ?_
    refine sq ?_
    refine rg ?_
    refine asg (v := .int .u32 _) rfl rfl ?_
    refine nl ?_
    refine then_n ?_
    refine sq ?_
    refine sq ?_
    refine rg ?_
    first | refine ld H rfl sc23 rfl rfl ?_ | refine lc rfl (by first | assumption | exact H.fr.cell (by assumption) (by simp)) sc23 rfl ?_ | refine ld H rfl sc23 (by assumption) rfl ?_
    first | refine ld H rfl sc3 rfl rfl ?_ | refine lc rfl (by first | assumption | exact H.fr.cell (by assumption) (by simp)) sc3 rfl ?_ | refine ld H rfl sc3 (by assumption) rfl ?_
    first | refine ld H rfl sc3 rfl rfl ?_ | refine lc rfl (by first | assumption | exact H.fr.cell (by assumption) (by simp)) sc3 rfl ?_ | refine ld H rfl sc3 (by assumption) rfl ?_
    refine add rfl rfl (by first | exact w_i64 (by omega) | exact w_i64 (rng_i64 _) | rfl) rfl ?_
    refine sllhN (0 + a) (92) (c - a) rfl rfl rfl Try.underlying23 sz5_1 (by omega) (by omega) rfl ?_
    refine lnS rfl Try.underlying23 rfl ?_
    refine mv (v := .int .i64 _) rfl rfl ?_
    refine nl ?_
    refine then_n ?_
    refine bk ?_
    refine lpM (α := Nat × Int) [8, 9, 10, 36, 37, 38, 39, 40, 41, 42, 43, 44, 45, 46, 47, 48, 49, 50, 51, 52, 53, 54, 55, 56, 57, 58, 59, 60] (fun (i, y) => [(8, .int .u32 y), (36, .int .i64 (i : Int))]) (fun (i, y) w' => i ≤ 92 ∧ gC (zHdr (pcs ds a 92)) 4294967295 = gC ((zHdr (pcs ds a 92)).drop i) y ∧ SH w [] w' [⟨b2, .cells #[.int .i64 (a : Int)] 3 (0, 0), true⟩, ⟨b1, .cells #[.slice (some ⟨q, 0, none⟩) L c] 23 (0, 0), true⟩]) (fun (i, y) => 92 - i) (0, 4294967295) ?_ (fC (by first | rfl | exact congrArg (Value.int _) (by first | omega | assumption | (symm; assumption) | (simp; done) | (simp; omega)) | exact congrArg (fun n => Value.slice _ n _) (by first | omega | (simp; done) | (simp; omega))) (fC (by first | rfl | exact congrArg (Value.int _) (by first | omega | assumption | (symm; assumption) | (simp; done) | (simp; omega)) | exact congrArg (fun n => Value.slice _ n _) (by first | omega | (simp; done) | (simp; omega))) (fN _))) ?_   -- loop 1
    · exact ⟨by omega, rfl, H⟩
    · rintro ⟨i, y⟩ ρx w3 ⟨hi, hy, H⟩
      refine sq ?_
      refine rg ?_
      refine lss rfl rfl rfl ?_
      refine nl ?_
      refine then_n ?_
      refine sq ?_
      first | refine cd rfl (fun hc2 => ?_) (fun hc2 => ?_) | refine cn rfl (fun hc2 => ?_) (fun hc2 => ?_)   -- test 2
      · obtain ⟨ad, had, hcell⟩ := hq.2 (a + i) (by omega)
        cases had
        have hcell := H.fr.cell hcell (by simp)
        rw [Addr.add_lit] at hcell
        refine sk ?_
        refine then_n ?_
        refine sq ?_
        refine bk ?_
        refine sq ?_
        refine rg ?_
        refine mv (v := .int .i64 _) rfl rfl ?_
        refine iaN (0 + (a + i)) rfl rfl Try.underlying23 sz5_1 (by omega) (by omega) rfl ?_
        first | (refine ldb H rfl sc5 (by omega) rfl ?_; intro hu1) | refine ld H rfl sc5 rfl rfl ?_ | refine lc rfl (by first | assumption | exact H.fr.cell (by assumption) (by simp)) sc5 rfl ?_
        refine asg (v := .int .i64 _) rfl rfl ?_
        refine asg (v := .int .u8 _) rfl rfl ?_
        refine nl ?_
        refine then_n ?_
        refine ctM (α := Unit) [10, 41, 42, 43, 44, 45, 46] (fun _u => [(10, .int .u8 (((zHdr (pcs ds a 92)).getD i 0).toNat : Int))]) (fun _u w' => SH w [] w' [⟨b2, .cells #[.int .i64 (a : Int)] 3 (0, 0), true⟩, ⟨b1, .cells #[.slice (some ⟨q, 0, none⟩) L c] 23 (0, 0), true⟩]) ?_ ?_   -- cut
        · refine sq ?_
          refine rg ?_
          refine mv (v := .int .i64 _) rfl rfl ?_
          refine geq rfl rfl rfl ?_
          refine mv (v := .bool _) rfl rfl ?_
          first | refine spd (t := 43) rfl (fun hg3 => ?_) (fun hg3 => ?_) | refine sp (t := 43) rfl (fun hg3 => ?_) (fun hg3 => ?_)   -- guard 3
          · refine gy rfl ?_
            refine mv (v := .int .i64 _) rfl rfl ?_
            refine gy rfl ?_
            refine lss rfl rfl rfl ?_
            refine pkT (v := .bool _) rfl rfl rfl ?_
            refine nl ?_
            refine then_n ?_
            first | refine cd rfl (fun hc3 => ?_) (fun hc3 => ?_) | refine cn rfl (fun hc3 => ?_) (fun hc3 => ?_)   -- test 3
            · have hz1 : (0 : Int) = (((zHdr (pcs ds a 92)).getD i 0).toNat : Int) := by rw [zHdr_getD (pcs_len (by omega)) (by omega), if_pos (by omega)]; rfl
              refine rg ?_
              refine asg (v := .int .u8 _) rfl rfl ?_
              refine nl ?_
              refine then_n ?_
              exact ⟨(), H, (fC (by first | rfl | exact congrArg (Value.int _) (by first | omega | assumption | (symm; assumption) | (simp; done) | (simp; omega)) | exact congrArg (fun n => Value.slice _ n _) (by first | omega | (simp; done) | (simp; omega))) (fN _)), (by repeat (first | exact Agree.setL rfl Agree.mask | exact Agree.self _ _ | refine Agree.upd rfl ?_ | refine Agree.setL rfl ?_ | refine Agree.mask2 rfl ?_))⟩
            · have hz1 : (((zHdr (pcs ds a 92)).getD i 0).toNat : Int) = ((ds.getD (a + i) 0).toNat : Int) := by rw [zHdr_getD (pcs_len (by omega)) (by omega), if_neg (by omega), pcs_getD (by omega)]
              refine sk ?_
              refine then_n ?_
              exact ⟨(), H, (fC (by first | rfl | exact congrArg (Value.int _) (by first | omega | assumption | (symm; assumption) | (simp; done) | (simp; omega)) | exact congrArg (fun n => Value.slice _ n _) (by first | omega | (simp; done) | (simp; omega))) (fN _)), (by repeat (first | exact Agree.setL rfl Agree.mask | exact Agree.self _ _ | refine Agree.upd rfl ?_ | refine Agree.setL rfl ?_ | refine Agree.mask2 rfl ?_))⟩
          · have hz1 : (((zHdr (pcs ds a 92)).getD i 0).toNat : Int) = ((ds.getD (a + i) 0).toNat : Int) := by rw [zHdr_getD (pcs_len (by omega)) (by omega), if_neg (by omega), pcs_getD (by omega)]
            refine gn rfl rfl ?_
            refine gn rfl rfl ?_
            refine pkF (v := .bool _) rfl rfl rfl ?_
            refine nl ?_
            refine then_n ?_
            refine cbF rfl rfl ?_
            refine sk ?_
            refine then_n ?_
            exact ⟨(), H, (fC (by first | rfl | exact congrArg (Value.int _) (by first | omega | assumption | (symm; assumption) | (simp; done) | (simp; omega)) | exact congrArg (fun n => Value.slice _ n _) (by first | omega | (simp; done) | (simp; omega))) (fN _)), (by repeat (first | exact Agree.setL rfl Agree.mask | exact Agree.self _ _ | refine Agree.upd rfl ?_ | refine Agree.setL rfl ?_ | refine Agree.mask2 rfl ?_))⟩
        · rintro _u ρx w4 H
          refine sq ?_
          refine rg ?_
          refine mv (v := .int .u32 _) rfl rfl ?_
          refine mv (v := .int .u8 _) rfl rfl ?_
          refine cvi rfl rfl Try.underlying35 (by first | exact w_u32 (by omega) | exact w_u32 (rng_u32 _) | exact m_u32 _) rfl ?_
          refine bxor rfl rfl rfl rfl ?_
          refine asg (v := .int .u32 _) rfl rfl ?_
          refine nl ?_
          refine then_n ?_
          refine sq ?_
          refine rg ?_
          refine mv (v := .int .i64 _) rfl rfl ?_
          refine nl ?_
          refine then_n ?_
          refine bk ?_
          refine lpM (α := Nat × Int) [8, 51, 52, 53, 54, 55, 56, 57, 58, 59] (fun (j, z) => [(8, .int .u32 z), (51, .int .i64 (j : Int))]) (fun (j, z) w' => j ≤ 8 ∧ gN (8 - j) z = gByte y ((zHdr (pcs ds a 92)).getD i 0) ∧ (0 ≤ z ∧ z ≤ 4294967295) ∧ SH w [] w' [⟨b2, .cells #[.int .i64 (a : Int)] 3 (0, 0), true⟩, ⟨b1, .cells #[.slice (some ⟨q, 0, none⟩) L c] 23 (0, 0), true⟩]) (fun (j, z) => 8 - j) (0, bits .xor .u32 y (((zHdr (pcs ds a 92)).getD i 0).toNat : Int)) ?_ (fC (by first | rfl | exact congrArg (Value.int _) (by first | omega | assumption | (symm; assumption) | (simp; done) | (simp; omega)) | exact congrArg (fun n => Value.slice _ n _) (by first | omega | (simp; done) | (simp; omega))) (fC (by first | rfl | exact congrArg (Value.int _) (by first | omega | assumption | (symm; assumption) | (simp; done) | (simp; omega)) | exact congrArg (fun n => Value.slice _ n _) (by first | omega | (simp; done) | (simp; omega))) (fN _))) ?_   -- loop 2
          · exact ⟨by omega, gByte_eq _ _, xor_rng _ _, H⟩
          · rintro ⟨j, z⟩ ρx w5 ⟨hj, hz, hzr, H⟩
            have ha1 := gAnd1 z
            refine sq ?_
            refine rg ?_
            refine lss rfl rfl rfl ?_
            refine nl ?_
            refine then_n ?_
            refine sq ?_
            first | refine cd rfl (fun hc4 => ?_) (fun hc4 => ?_) | refine cn rfl (fun hc4 => ?_) (fun hc4 => ?_)   -- test 4
            · refine sk ?_
              refine then_n ?_
              refine sq ?_
              refine bk ?_
              refine rg ?_
              refine mv (v := .int .u32 _) rfl rfl ?_
              refine shrK (s := 1) (p := 2) rfl rfl (by decide) (by decide) rfl rfl ?_
              refine mv (v := .int .u32 _) rfl rfl ?_
              refine band rfl rfl rfl rfl ?_
              refine mul rfl rfl (by first | exact w_u32 (by omega) | exact w_u32 (rng_u32 _) | exact m_u32 _) rfl ?_
              refine bxor (c := gBit z) rfl rfl (gBit_mul hzr) rfl ?_
              refine asg (v := .int .u32 _) rfl rfl ?_
              refine nl ?_
              refine in_n ?_
              refine then_n ?_
              refine rg ?_
              refine add rfl rfl (by first | exact w_i64 (by omega) | exact w_i64 (rng_i64 _) | rfl) rfl ?_
              refine mv (v := .int .i64 _) rfl rfl ?_
              refine nl ?_
              refine loop_n ?_
              exact ⟨(j + 1, gBit z), (by (try dsimp only); omega), ⟨by omega, by rw [← hz, show 8 - j = (8 - (j + 1)) + 1 by omega]; rfl, gBit_rng' hzr, H⟩, (fC (by first | rfl | exact congrArg (Value.int _) (by first | omega | assumption | (symm; assumption) | (simp; done) | (simp; omega)) | exact congrArg (fun n => Value.slice _ n _) (by first | omega | (simp; done) | (simp; omega))) (fC (by first | rfl | exact congrArg (Value.int _) (by first | omega | assumption | (symm; assumption) | (simp; done) | (simp; omega)) | exact congrArg (fun n => Value.slice _ n _) (by first | omega | (simp; done) | (simp; omega))) (fN _))), (by repeat (first | exact Agree.setL rfl Agree.mask | exact Agree.self _ _ | refine Agree.upd rfl ?_ | refine Agree.setL rfl ?_ | refine Agree.mask2 rfl ?_))⟩
            · refine ex ?_
              refine then_e ?_
              refine loop_e ?_
              refine in_hit rfl ?_
              refine in_n ?_
              refine then_n ?_
              refine rg ?_
              refine add rfl rfl (by first | exact w_i64 (by omega) | exact w_i64 (rng_i64 _) | rfl) rfl ?_
              refine mv (v := .int .i64 _) rfl rfl ?_
              refine nl ?_
              refine loop_n ?_
              exact ⟨(i + 1, z), (by (try dsimp only); omega), ⟨by omega, by rw [hy, gC_drop _ i y (by omega), ← hz, show 8 - j = 0 by omega]; rfl, H⟩, (fC (by first | rfl | exact congrArg (Value.int _) (by first | omega | assumption | (symm; assumption) | (simp; done) | (simp; omega)) | exact congrArg (fun n => Value.slice _ n _) (by first | omega | (simp; done) | (simp; omega))) (fC (by first | rfl | exact congrArg (Value.int _) (by first | omega | assumption | (symm; assumption) | (simp; done) | (simp; omega)) | exact congrArg (fun n => Value.slice _ n _) (by first | omega | (simp; done) | (simp; omega))) (fN _))), (by repeat (first | exact Agree.setL rfl Agree.mask | exact Agree.self _ _ | refine Agree.upd rfl ?_ | refine Agree.setL rfl ?_ | refine Agree.mask2 rfl ?_))⟩
      · refine ex ?_
        refine then_e ?_
        refine loop_e ?_
        refine in_hit rfl ?_
        refine then_n ?_
        refine sq ?_
        refine dr (by kernel_rfl) ?_   -- region 16
        have H := H.drew
        refine hold (fun _ => True) [] ?_
        refine tk (i := 0) rfl (by kernel_rfl) rfl trivial (fun _ _ => r_mv (v := .int .u32 _) rfl) ?_
        refine tk (i := 1) rfl (by kernel_rfl) rfl trivial (fun _ _ => r_ucompl (c := crc32 (zHdr (pcs ds a 92))) rfl (by rw [← crc_eq, hy, List.drop_of_length_le (by omega)]; rfl)) ?_
        refine tk (i := 2) rfl (by kernel_rfl) rfl trivial (fun _ _ => r_cvi rfl rfl Try.underlying30 (by first | exact w_u64 (by omega) | exact w_u64 (rng_u64 _) | exact m_u64 _)) ?_
        refine tk (i := 3) rfl (by kernel_rfl) rfl trivial (fun _ _ => r_mv (v := .func _ _ _) rfl) ?_
        refine unfree ?_
        refine fo (i := 4) (by kernel_rfl) rfl rfl ?_
        refine cld rfl ca34 (c_fits1 _ b1 b2 (some ⟨q, 0, none⟩) L c a 16 4 ds (cell_at (H.look (b := b1))) (cell_at (H.look (b := b2))) (hq.keep H.fr) (by omega) (by omega) (by decide)) rfl ?_
        rintro _ w6 ⟨rfl, F⟩
        replace H := H.keep F; clear F
        refine nl ?_
        refine then_n ?_
        refine holdH H [] ?_
        refine tk (i := 5) rfl (by kernel_rfl) rfl H (fun w' H => r_neq rfl rfl) ?_
        refine tk (i := 6) rfl (by kernel_rfl) rfl H (fun w' H => r_mv (v := .bool _) rfl) ?_
        first | refine spad (t := 67) rfl (fun hg4 => ?_) (fun hg4 => ?_) | refine spa (t := 67) rfl (fun hg4 => ?_) (fun hg4 => ?_)   -- guard 4
        · refine tkn (i := 7) rfl (by kernel_rfl) rfl H rfl ?_
          refine tkn (i := 8) rfl (by kernel_rfl) rfl H rfl ?_
          refine tkn (i := 9) rfl (by kernel_rfl) rfl H rfl ?_
          refine tkn (i := 10) rfl (by kernel_rfl) rfl H rfl ?_
          refine tknU (i := 11) rfl (by kernel_rfl) rfl H rfl ?_
          refine tknU (i := 12) rfl (by kernel_rfl) rfl H rfl ?_
          refine tknU (i := 13) rfl (by kernel_rfl) rfl H rfl ?_
          refine tkn (i := 14) rfl (by kernel_rfl) rfl H rfl ?_
          refine tkn (i := 15) rfl (by kernel_rfl) rfl H rfl ?_
          refine tknU (i := 16) rfl (by kernel_rfl) rfl H rfl ?_
          refine tknU (i := 17) rfl (by kernel_rfl) rfl H rfl ?_
          refine tknU (i := 18) rfl (by kernel_rfl) rfl H rfl ?_
          refine tknU (i := 19) rfl (by kernel_rfl) rfl H rfl ?_
          refine tknU (i := 20) rfl (by kernel_rfl) rfl H rfl ?_
          refine tknU (i := 21) rfl (by kernel_rfl) rfl H rfl ?_
          refine tkn (i := 22) rfl (by kernel_rfl) rfl H rfl ?_
          refine tk (i := 23) rfl (by kernel_rfl) rfl H (fun w' H => r_pkT (v := .bool _) rfl rfl) ?_
          refine tk (i := 24) rfl (by kernel_rfl) rfl H (fun w' H => r_asg (v := .bool _) rfl) ?_
          refine da (by kernel_rfl) ?_
          refine then_n ?_
          refine rt ?_
          refine fin_r ?_
          have hsig : sigOk ds a = true := decide_eq_true (by simpa using hc1)
          refine ⟨congrArg Value.bool ?_, H.fr⟩
          show _ = (!(sigOk ds a) || !(decide (crc32 (zHdr (pcs ds a 92)) = leV ((ds.drop (a + 16)).take 4))) || (decide (leV ((ds.drop (a + 84)).take 4) = 128) && decide (leV ((ds.drop (a + 80)).take 4) ≤ 1024) && decide (leV ((ds.drop (a + 72)).take 8) < 2147483648 / (s : Int))))
          rw [hsig]
          by_cases h4 : crc32 (zHdr (pcs ds a 92)) = leV ((ds.drop (a + 16)).take 4)
          · first | exact absurd h4 hg4 | (rw [decide_eq_true h4]; first | (simp [hg5, hg6]; done) | (simp [hg5]; done) | (simp; done))
          · first | (rw [decide_eq_false h4]; rfl) | exact absurd (Classical.not_not.1 hg4) h4
        · refine tkg (i := 7) rfl (by kernel_rfl) rfl H rfl (fun w' H => r_mv (v := .func _ _ _) rfl) ?_
          refine fk (i := 8) (by kernel_rfl) rfl rfl rfl ?_
          refine gy rfl ?_
          refine cld rfl ca34 (c_fits1 _ b1 b2 (some ⟨q, 0, none⟩) L c a 84 4 ds (cell_at (H.look (b := b1))) (cell_at (H.look (b := b2))) (hq.keep H.fr) (by omega) (by omega) (by decide)) rfl ?_
          rintro _ w7 ⟨rfl, F⟩
          replace H := H.keep F; clear F
          refine nl ?_
          refine then_n ?_
          refine ⟨H, ?_⟩
          refine tkg (i := 9) rfl (by kernel_rfl) rfl H rfl (fun w' H => r_eql rfl rfl) ?_
          refine tkg (i := 10) rfl (by kernel_rfl) rfl H rfl (fun w' H => r_mv (v := .bool _) rfl) ?_
          first | refine spad (t := 71) rfl (fun hg5 => ?_) (fun hg5 => ?_) | refine spa (t := 71) rfl (fun hg5 => ?_) (fun hg5 => ?_)   -- guard 5
          · refine tkg (i := 11) rfl (by kernel_rfl) rfl H rfl (fun w' H => r_mv (v := .func _ _ _) rfl) ?_
            refine fk (i := 12) (by kernel_rfl) rfl rfl rfl ?_
            refine gy rfl ?_
            refine cld rfl ca34 (c_fits1 _ b1 b2 (some ⟨q, 0, none⟩) L c a 80 4 ds (cell_at (H.look (b := b1))) (cell_at (H.look (b := b2))) (hq.keep H.fr) (by omega) (by omega) (by decide)) rfl ?_
            rintro _ w8 ⟨rfl, F⟩
            replace H := H.keep F; clear F
            refine nl ?_
            refine then_n ?_
            refine ⟨H, ?_⟩
            refine tkg (i := 13) rfl (by kernel_rfl) rfl H rfl (fun w' H => r_leq rfl rfl) ?_
            refine tkg (i := 14) rfl (by kernel_rfl) rfl H rfl (fun w' H => r_pkT (v := .bool _) rfl rfl) ?_
            refine tkg (i := 15) rfl (by kernel_rfl) rfl H rfl (fun w' H => r_mv (v := .bool _) rfl) ?_
            first | refine spad (t := 76) rfl (fun hg6 => ?_) (fun hg6 => ?_) | refine spa (t := 76) rfl (fun hg6 => ?_) (fun hg6 => ?_)   -- guard 6
            · refine tkg (i := 16) rfl (by kernel_rfl) rfl H rfl (fun w' H => r_mv (v := .func _ _ _) rfl) ?_
              refine tkg (i := 18) rfl (by kernel_rfl) rfl H rfl (fun w' H => r_mv (v := .int .i64 _) rfl) ?_
              refine tkg (i := 19) rfl (by kernel_rfl) rfl H rfl (fun w' H => r_cvi rfl rfl Try.underlying30 (by first | exact w_u64 (by omega) | exact w_u64 (rng_u64 _) | exact m_u64 _)) ?_
              refine tkg (i := 20) rfl (by kernel_rfl) rfl H rfl (fun w' H => r_quo (c := 2147483648 / (s : Int)) rfl rfl (by omega) (by omega) (w_u64 ⟨Int.ediv_nonneg (by decide) (by omega), Int.le_trans (Int.ediv_le_self _ (by decide)) (by decide)⟩)) ?_
              refine fk (i := 17) (by kernel_rfl) rfl rfl rfl ?_
              refine gy rfl ?_
              refine cld rfl ca34 (c_fits1 _ b1 b2 (some ⟨q, 0, none⟩) L c a 72 8 ds (cell_at (H.look (b := b1))) (cell_at (H.look (b := b2))) (hq.keep H.fr) (by omega) (by omega) (by decide)) rfl ?_
              rintro _ w9 ⟨rfl, F⟩
              replace H := H.keep F; clear F
              refine nl ?_
              refine then_n ?_
              refine ⟨H, ?_⟩
              refine tkg (i := 21) rfl (by kernel_rfl) rfl H rfl (fun w' H => r_lss rfl rfl) ?_
              refine tkg (i := 22) rfl (by kernel_rfl) rfl H rfl (fun w' H => r_pkT (v := .bool _) rfl rfl) ?_
              refine tk (i := 23) rfl (by kernel_rfl) rfl H (fun w' H => r_pkF (v := .bool _) rfl rfl) ?_
              refine tk (i := 24) rfl (by kernel_rfl) rfl H (fun w' H => r_asg (v := .bool _) rfl) ?_
              refine da (by kernel_rfl) ?_
              refine then_n ?_
              refine rt ?_
              refine fin_r ?_
              have hsig : sigOk ds a = true := decide_eq_true (by simpa using hc1)
              refine ⟨congrArg Value.bool ?_, H.fr⟩
              show _ = (!(sigOk ds a) || !(decide (crc32 (zHdr (pcs ds a 92)) = leV ((ds.drop (a + 16)).take 4))) || (decide (leV ((ds.drop (a + 84)).take 4) = 128) && decide (leV ((ds.drop (a + 80)).take 4) ≤ 1024) && decide (leV ((ds.drop (a + 72)).take 8) < 2147483648 / (s : Int))))
              rw [hsig]
              by_cases h4 : crc32 (zHdr (pcs ds a 92)) = leV ((ds.drop (a + 16)).take 4)
              · first | exact absurd h4 hg4 | (rw [decide_eq_true h4]; first | (simp [hg5, hg6]; done) | (simp [hg5]; done) | (simp; done))
              · first | (rw [decide_eq_false h4]; rfl) | exact absurd (Classical.not_not.1 hg4) h4
            · refine tkn (i := 16) rfl (by kernel_rfl) rfl H rfl ?_
              refine tkn (i := 17) rfl (by kernel_rfl) rfl H rfl ?_
              refine tkn (i := 18) rfl (by kernel_rfl) rfl H rfl ?_
              refine tkn (i := 19) rfl (by kernel_rfl) rfl H rfl ?_
              refine tkn (i := 20) rfl (by kernel_rfl) rfl H rfl ?_
              refine tkn (i := 21) rfl (by kernel_rfl) rfl H rfl ?_
              refine tkg (i := 22) rfl (by kernel_rfl) rfl H rfl (fun w' H => r_pkF (v := .bool _) rfl rfl) ?_
              refine tk (i := 23) rfl (by kernel_rfl) rfl H (fun w' H => r_pkF (v := .bool _) rfl rfl) ?_
              refine tk (i := 24) rfl (by kernel_rfl) rfl H (fun w' H => r_asg (v := .bool _) rfl) ?_
              refine da (by kernel_rfl) ?_
              refine then_n ?_
              refine rt ?_
              refine fin_r ?_
              have hsig : sigOk ds a = true := decide_eq_true (by simpa using hc1)
              refine ⟨congrArg Value.bool ?_, H.fr⟩
              show _ = (!(sigOk ds a) || !(decide (crc32 (zHdr (pcs ds a 92)) = leV ((ds.drop (a + 16)).take 4))) || (decide (leV ((ds.drop (a + 84)).take 4) = 128) && decide (leV ((ds.drop (a + 80)).take 4) ≤ 1024) && decide (leV ((ds.drop (a + 72)).take 8) < 2147483648 / (s : Int))))
              rw [hsig]
              by_cases h4 : crc32 (zHdr (pcs ds a 92)) = leV ((ds.drop (a + 16)).take 4)
              · first | exact absurd h4 hg4 | (rw [decide_eq_true h4]; first | (simp [hg5, hg6]; done) | (simp [hg5]; done) | (simp; done))
              · first | (rw [decide_eq_false h4]; rfl) | exact absurd (Classical.not_not.1 hg4) h4
          · refine tkn (i := 11) rfl (by kernel_rfl) rfl H rfl ?_
            refine tkn (i := 12) rfl (by kernel_rfl) rfl H rfl ?_
            refine tkn (i := 13) rfl (by kernel_rfl) rfl H rfl ?_
            refine tkg (i := 14) rfl (by kernel_rfl) rfl H rfl (fun w' H => r_pkF (v := .bool _) rfl rfl) ?_
            refine tkg (i := 15) rfl (by kernel_rfl) rfl H rfl (fun w' H => r_mv (v := .bool _) rfl) ?_
            refine tkn (i := 16) rfl (by kernel_rfl) rfl H rfl ?_
            refine tkn (i := 17) rfl (by kernel_rfl) rfl H rfl ?_
            refine tkn (i := 18) rfl (by kernel_rfl) rfl H rfl ?_
            refine tkn (i := 19) rfl (by kernel_rfl) rfl H rfl ?_
            refine tkn (i := 20) rfl (by kernel_rfl) rfl H rfl ?_
            refine tkn (i := 21) rfl (by kernel_rfl) rfl H rfl ?_
            refine tkg (i := 22) rfl (by kernel_rfl) rfl H rfl (fun w' H => r_pkF (v := .bool _) rfl rfl) ?_
            refine tk (i := 23) rfl (by kernel_rfl) rfl H (fun w' H => r_pkF (v := .bool _) rfl rfl) ?_
            refine tk (i := 24) rfl (by kernel_rfl) rfl H (fun w' H => r_asg (v := .bool _) rfl) ?_
            refine da (by kernel_rfl) ?_
            refine then_n ?_
            refine rt ?_
            refine fin_r ?_
            have hsig : sigOk ds a = true := decide_eq_true (by simpa using hc1)
            refine ⟨congrArg Value.bool ?_, H.fr⟩
            show _ = (!(sigOk ds a) || !(decide (crc32 (zHdr (pcs ds a 92)) = leV ((ds.drop (a + 16)).take 4))) || (decide (leV ((ds.drop (a + 84)).take 4) = 128) && decide (leV ((ds.drop (a + 80)).take 4) ≤ 1024) && decide (leV ((ds.drop (a + 72)).take 8) < 2147483648 / (s : Int))))
            rw [hsig]
            by_cases h4 : crc32 (zHdr (pcs ds a 92)) = leV ((ds.drop (a + 16)).take 4)
            · first | exact absurd h4 hg4 | (rw [decide_eq_true h4]; first | (simp [hg5, hg6]; done) | (simp [hg5]; done) | (simp; done))
            · first | (rw [decide_eq_false h4]; rfl) | exact absurd (Classical.not_not.1 hg4) h4

end Go.Proofs.Ythcaejaaalkglaa.X
/- Walks of functions, printed by a program of this claim. -/
namespace Go.Proofs.Ythcaejaaalkglaa.X
set_option linter.unusedVariables false
set_option linter.unusedSimpArgs false
open Go Go.RowKit

namespace P11
theorem bo106 : buildOK Try.prog 106 = true := by kernel_rfl
theorem bo68 : buildOK Try.prog 68 = true := by kernel_rfl
theorem cc104 : Try.prog.concrete 104 = true := by kernel_rfl
theorem fo68_0 : fieldOff Try.prog 68 0 = some 0 := by kernel_rfl
theorem mi5 : elemInfo Try.prog 5 = some (.int .u8 0, 1) := by kernel_rfl
theorem pl106_0 : placeOf Try.prog 106 0 = some (0, 1) := by kernel_rfl
theorem pl68_0 : placeOf Try.prog 68 0 = some (0, 1) := by kernel_rfl
theorem sc23 : scalarB Try.prog 23 = true := by kernel_rfl
theorem sz5_1 : sizeB Try.prog 5 1 = true := by kernel_rfl
theorem ze106 : zeroL Try.prog 106 = some [.string ⟨#[]⟩] := by kernel_rfl
theorem ze5 : zeroL Try.prog 5 = some [.int .u8 0] := by kernel_rfl
theorem ze68 : zeroL Try.prog 68 = some [.slice none 0 0, .int .i64 0, .bool false, .slice none 0 0] := by kernel_rfl

end P11
open P11

set_option maxRecDepth 100000 in
set_option maxHeartbeats 1000000 in
theorem c_errNew (w : World) (s : List UInt8) : Calls Try.prog 37 #[.string (str s)] w (Ret fun v w' => (∃ b, v = .iface 104 (.pointer (some ⟨b, 0, none⟩))) ∧ Fr [] w w') := by
  refine enter (fun ρ => ρ 2) Try.func37 rfl rfl rfl (res1 rfl) ?_
  have H := SH.nil w
  refine sq ?_
  refine rg ?_
  refine asg (v := .nilIface) rfl rfl ?_
  refine nl ?_
  refine then_n ?_
  refine sq ?_
  refine rg ?_
  refine mv (v := .string _) rfl rfl ?_
  refine bu (out := ?o1) ze106 bo106 ?f1 rfl ?_
  case f1 =>
    refine FL.one (v := .string _) rfl pl106_0 rfl (by first | decide | simp) ?_
    exact FL.nil
  refine bx (v := .agg _) H rfl rfl rfl ?_
  clear H; intro b1 w1 hb1 H _
  refine mi (v := .pointer _) rfl cc104 rfl ?_
  first | refine asg (v := .nilIface) rfl rfl ?_ | refine asg (v := .iface _ _) rfl rfl ?_ | refine asg rfl rfl ?_
  refine nl ?_
  refine then_n ?_
  refine rt ?_
  refine fin_r ?_
  exact ⟨⟨_, rfl⟩, H.fr⟩

set_option maxRecDepth 100000 in
set_option maxHeartbeats 1000000 in
theorem c_secAsked (w : World) (s : Nat) (hs : s ≤ 1000000) : Calls Try.prog 25 #[.int .i64 (s : Int)] w (Ret fun v w' => v = .bool (decide (512 ≤ s ∧ s ≤ 4096)) ∧ Fr [] w w') := by
  refine enter (fun ρ => ρ 2) Try.func25 rfl rfl rfl (res1 rfl) ?_
  have H := SH.nil w
  refine sq ?_
  refine rg ?_
  refine asg (v := .bool _) rfl rfl ?_
  refine nl ?_
  refine then_n ?_
  refine sq ?_
  refine rg ?_
  refine mv (v := .int .i64 _) rfl rfl ?_
  refine geq rfl rfl rfl ?_
  refine mv (v := .bool _) rfl rfl ?_
  first | refine spd (t := 5) rfl (fun hg1 => ?_) (fun hg1 => ?_) | refine sp (t := 5) rfl (fun hg1 => ?_) (fun hg1 => ?_)   -- guard 1
  · refine gy rfl ?_
    refine mv (v := .int .i64 _) rfl rfl ?_
    refine gy rfl ?_
    refine leq rfl rfl rfl ?_
    refine pkT (v := .bool _) rfl rfl rfl ?_
    refine asg (v := .bool _) rfl rfl ?_
    refine nl ?_
    refine then_n ?_
    refine rt ?_
    refine fin_r ?_
    exact ⟨congrArg Value.bool (by first | (rw [decide_eq_true (by omega)]; done) | (rw [decide_eq_false (by omega)]; done) | (apply decide_eq_decide.2; omega)), H.fr⟩
  · refine gn rfl rfl ?_
    refine gn rfl rfl ?_
    refine pkF (v := .bool _) rfl rfl rfl ?_
    refine asg (v := .bool _) rfl rfl ?_
    refine nl ?_
    refine then_n ?_
    refine rt ?_
    refine fin_r ?_
    exact ⟨congrArg Value.bool (by first | (rw [decide_eq_true (by omega)]; done) | (rw [decide_eq_false (by omega)]; done) | (apply decide_eq_decide.2; omega)), H.fr⟩

set_option maxRecDepth 100000 in
set_option maxHeartbeats 1000000 in
theorem c_memoryOf (w : World) (s : List UInt8) (hs : s.length ≤ 100000000) : Calls Try.prog 14 #[.string (str s)] w (Ret fun v w' => ∃ b d c, v = .pointer (some ⟨b, 0, none⟩) ∧ s.length ≤ c ∧ SH w [] w' [⟨b, .cells [.slice (some ⟨d, 0, none⟩) s.length c, .int .i64 0, .bool false, .slice none 0 0].toArray 68 (0, 0), true⟩, ⟨d, .cells (Bs (s ++ List.replicate (c - s.length) 0)).toArray 5 (c, c + 1), true⟩]) := by
  refine enter (fun ρ => ρ 2) Try.func14 rfl rfl rfl (res1 rfl) ?_
  have H := SH.nil w
  refine sq ?_
  refine rg ?_
  refine asg (v := .pointer _) rfl rfl ?_
  refine nl ?_
  refine then_n ?_
  refine sq ?_
  refine rg ?_
  refine mv (v := .string _) rfl rfl ?_
  refine cvSB H rfl Try.underlying9 Try.underlying23 Try.underlying5 rfl ?_
  clear H; intro b1 cp1 w1 hb1 hcp1 H _
  refine bu (out := ?o1) ze68 bo68 ?f1 rfl ?_
  case f1 =>
    refine FL.one (v := .slice _ _ _) rfl pl68_0 rfl (by first | decide | simp) ?_
    exact FL.nil
  refine bx (v := .agg _) H rfl rfl rfl ?_
  clear H; intro b2 w2 hb2 H _
  refine asg (v := .pointer _) rfl rfl ?_
  refine nl ?_
  refine then_n ?_
  refine rt ?_
  refine fin_r ?_
  exact ⟨_, _, _, rfl, by assumption, H⟩

set_option maxRecDepth 100000 in
set_option maxHeartbeats 1000000 in
theorem c_readAt (w : World) (bm bd b2 L c k o n c2 : Nat) (T2 : TypeId) (ds bs : List UInt8) (hm : w.cell? ⟨bm, 0, none⟩ = some (.slice (some ⟨bd, 0, none⟩) L c)) (hd : RB w (some ⟨bd, 0, none⟩) L ds) (h2 : w.heap[b2]? = some (.cells (Bs bs).toArray T2 (0, 0))) (hne : b2 ≠ bm ∧ b2 ≠ bd) (hk : k + n ≤ L) (hLc : L ≤ c) (hn : 0 < n) (hn2 : o + n ≤ bs.length) (hc : L ≤ 1000000000) : Calls Try.prog 82 #[.pointer (some ⟨bm, 0, none⟩), .slice (some ⟨b2, o, none⟩) n c2, .int .i64 (k : Int)] w (Ret fun v w' => v = .tuple #[.int .i64 (n : Int), .nilIface] ∧ Fr [b2] w w' ∧ w'.heap[b2]? = some (.cells (Bs (pAt bs o (pcs ds k n))).toArray T2 (0, 0))) := by
  refine enter (fun ρ => .tuple #[ρ 6, ρ 7]) Try.func82 rfl rfl rfl (res2 rfl) ?_
  have H := SH.rw1 h2
  have hdl := hd.1
  refine sq ?_
  refine rg ?_
  refine asg (v := .int .i64 _) rfl rfl ?_
  refine asg (v := .nilIface) rfl rfl ?_
  refine nl ?_
  refine then_n ?_
  refine sq ?_
  refine sq ?_
  refine rg ?_
  refine mv (v := .int .i64 _) rfl rfl ?_
  refine lss rfl rfl rfl ?_
  refine nl ?_
  refine then_n ?_
  first | refine cF rfl (by omega) ?_ | refine cbF rfl (by omega) ?_   -- test 1
  refine sk ?_
  refine then_n ?_
  refine sq ?_
  refine sq ?_
  refine rg ?_
  refine mv (v := .slice _ _ _) rfl rfl ?_
  refine lnS rfl Try.underlying23 rfl ?_
  refine eql rfl rfl rfl ?_
  refine nl ?_
  refine then_n ?_
  first | refine cF rfl (by omega) ?_ | refine cbF rfl (by omega) ?_   -- test 2
  refine sk ?_
  refine then_n ?_
  refine sq ?_
  refine sq ?_
  refine rg ?_
  refine mv (v := .int .i64 _) rfl rfl ?_
  refine mv (v := .pointer _) rfl rfl ?_
  first | refine nc rfl rfl ?_ | refine nci rfl rfl ?_
  refine fa rfl fo68_0 rfl ?_
  refine lc rfl (H.fr.cell hm (by simp [Ne.symm hne.1])) sc23 rfl ?_
  refine lnS rfl Try.underlying23 rfl ?_
  refine geq rfl rfl rfl ?_
  refine nl ?_
  refine then_n ?_
  first | refine cF rfl (by omega) ?_ | refine cbF rfl (by omega) ?_   -- test 3
  refine sk ?_
  refine then_n ?_
  refine sq ?_
  refine rg ?_
  refine mv (v := .slice _ _ _) rfl rfl ?_
  refine mv (v := .pointer _) rfl rfl ?_
  first | refine nc rfl rfl ?_ | refine nci rfl rfl ?_
  refine fa rfl fo68_0 rfl ?_
  refine lc rfl (H.fr.cell hm (by simp [Ne.symm hne.1])) sc23 rfl ?_
  refine mv (v := .int .i64 _) rfl rfl ?_
  refine sllN (0 + k) (L - k) (c - k) rfl rfl Try.underlying23 sz5_1 (by omega) (by omega) rfl ?_
  refine cpB (bs := ds.drop k) H rfl rfl Try.underlying23 sz5_1 ((hd.drop (k := k) (by omega)).now H.fr (by simp [Ne.symm hne.2])) (by omega) (by omega) rfl ?_
  clear H; intro w1 H _
  have hmin : min (L - k) n = n := by omega
  refine asg (v := .int .i64 _) rfl rfl ?_
  refine nl ?_
  refine then_n ?_
  refine sq ?_
  refine sq ?_
  refine rg ?_
  refine mv (v := .int .i64 _) rfl rfl ?_
  refine mv (v := .slice _ _ _) rfl rfl ?_
  refine lnS rfl Try.underlying23 rfl ?_
  refine lss rfl rfl rfl ?_
  refine nl ?_
  refine then_n ?_
  first | refine cF rfl (by omega) ?_ | refine cbF rfl (by omega) ?_   -- test 4
  refine sk ?_
  refine then_n ?_
  refine sq ?_
  refine rg ?_
  refine mv (v := .int .i64 _) rfl rfl ?_
  refine asg (v := .int .i64 _) rfl rfl ?_
  refine asg (v := .nilIface) rfl rfl ?_
  refine nl ?_
  refine then_n ?_
  refine rt ?_
  refine fin_r ?_
  have e := H.look (b := b2)
  refine ⟨?_, H.fr, ?_⟩
  · show Value.tuple #[.int .i64 ((min (L - k) n : Nat) : Int), .nilIface] = _
    rw [hmin]
  rw [e, hmin]
  have e2 : (pcs ds k n).length = n := pcs_len (by omega)
  unfold pAt
  rw [e2]
  rfl

set_option maxRecDepth 100000 in
set_option maxHeartbeats 1000000 in
theorem c_getSig (w : World)  : Calls Try.prog 51 #[] w (Ret fun v w' => ∃ b, v = .slice (some ⟨b, 0, none⟩) 8 8 ∧ w.heap.size ≤ b ∧ w'.heap[b]? = some (.cells (Bs [69, 70, 73, 32, 80, 65, 82, 84]).toArray 5 (0, 0)) ∧ Fr [] w w') := by
  refine enter (fun ρ => ρ 0) Try.func51 rfl rfl rfl (res1 rfl) ?_
  have H := SH.nil w
  refine sq ?_
  refine rg ?_
  refine asg (v := .slice _ _ _) rfl rfl ?_
  refine nl ?_
  refine then_n ?_
  refine sq ?_
  refine rg ?_
  refine bsl (sz := 1) (out := ?o1) H Try.underlying23 ze5 sz5_1 (by decide) ?f1 rfl ?_
  case f1 =>
    refine FS.one (v := .int .u8 _) rfl rfl rfl (by first | decide | simp) ?_
    refine FS.one (v := .int .u8 _) rfl rfl rfl (by first | decide | simp) ?_
    refine FS.one (v := .int .u8 _) rfl rfl rfl (by first | decide | simp) ?_
    refine FS.one (v := .int .u8 _) rfl rfl rfl (by first | decide | simp) ?_
    refine FS.one (v := .int .u8 _) rfl rfl rfl (by first | decide | simp) ?_
    refine FS.one (v := .int .u8 _) rfl rfl rfl (by first | decide | simp) ?_
    refine FS.one (v := .int .u8 _) rfl rfl rfl (by first | decide | simp) ?_
    refine FS.one (v := .int .u8 _) rfl rfl rfl (by first | decide | simp) ?_
    exact FS.nil
  clear H; intro b1 w1 hb1 H F
  refine asg (v := .slice _ _ _) rfl rfl ?_
  refine nl ?_
  refine then_n ?_
  refine rt ?_
  refine fin_r ?_
  exact ⟨_, rfl, H.ge, H.look, H.fr⟩

set_option maxRecDepth 100000 in
set_option maxHeartbeats 1000000 in
theorem c_getRev (w : World)  : Calls Try.prog 52 #[] w (Ret fun v w' => ∃ b, v = .slice (some ⟨b, 0, none⟩) 4 4 ∧ w.heap.size ≤ b ∧ w'.heap[b]? = some (.cells (Bs [0, 0, 1, 0]).toArray 5 (0, 0)) ∧ Fr [] w w') := by
  refine enter (fun ρ => ρ 0) Try.func52 rfl rfl rfl (res1 rfl) ?_
  have H := SH.nil w
  refine sq ?_
  refine rg ?_
  refine asg (v := .slice _ _ _) rfl rfl ?_
  refine nl ?_
  refine then_n ?_
  refine sq ?_
  refine rg ?_
  refine bsl (sz := 1) (out := ?o1) H Try.underlying23 ze5 sz5_1 (by decide) ?f1 rfl ?_
  case f1 =>
    refine FS.one (v := .int .u8 _) rfl rfl rfl (by first | decide | simp) ?_
    refine FS.one (v := .int .u8 _) rfl rfl rfl (by first | decide | simp) ?_
    refine FS.one (v := .int .u8 _) rfl rfl rfl (by first | decide | simp) ?_
    refine FS.one (v := .int .u8 _) rfl rfl rfl (by first | decide | simp) ?_
    exact FS.nil
  clear H; intro b1 w1 hb1 H F
  refine asg (v := .slice _ _ _) rfl rfl ?_
  refine nl ?_
  refine then_n ?_
  refine rt ?_
  refine fin_r ?_
  exact ⟨_, rfl, H.ge, H.look, H.fr⟩

set_option maxRecDepth 100000 in
set_option maxHeartbeats 1000000 in
theorem c_getHs (w : World)  : Calls Try.prog 53 #[] w (Ret fun v w' => ∃ b, v = .slice (some ⟨b, 0, none⟩) 4 4 ∧ w.heap.size ≤ b ∧ w'.heap[b]? = some (.cells (Bs [92, 0, 0, 0]).toArray 5 (0, 0)) ∧ Fr [] w w') := by
  refine enter (fun ρ => ρ 0) Try.func53 rfl rfl rfl (res1 rfl) ?_
  have H := SH.nil w
  refine sq ?_
  refine rg ?_
  refine asg (v := .slice _ _ _) rfl rfl ?_
  refine nl ?_
  refine then_n ?_
  refine sq ?_
  refine rg ?_
  refine bsl (sz := 1) (out := ?o1) H Try.underlying23 ze5 sz5_1 (by decide) ?f1 rfl ?_
  case f1 =>
    refine FS.one (v := .int .u8 _) rfl rfl rfl (by first | decide | simp) ?_
    refine FS.one (v := .int .u8 _) rfl rfl rfl (by first | decide | simp) ?_
    refine FS.one (v := .int .u8 _) rfl rfl rfl (by first | decide | simp) ?_
    refine FS.one (v := .int .u8 _) rfl rfl rfl (by first | decide | simp) ?_
    exact FS.nil
  clear H; intro b1 w1 hb1 H F
  refine asg (v := .slice _ _ _) rfl rfl ?_
  refine nl ?_
  refine then_n ?_
  refine rt ?_
  refine fin_r ?_
  exact ⟨_, rfl, H.ge, H.look, H.fr⟩

set_option maxRecDepth 100000 in
set_option maxHeartbeats 1000000 in
theorem c_getZ (w : World)  : Calls Try.prog 54 #[] w (Ret fun v w' => ∃ b, v = .slice (some ⟨b, 0, none⟩) 4 4 ∧ w.heap.size ≤ b ∧ w'.heap[b]? = some (.cells (Bs [0, 0, 0, 0]).toArray 5 (0, 0)) ∧ Fr [] w w') := by
  refine enter (fun ρ => ρ 0) Try.func54 rfl rfl rfl (res1 rfl) ?_
  have H := SH.nil w
  refine sq ?_
  refine rg ?_
  refine asg (v := .slice _ _ _) rfl rfl ?_
  refine nl ?_
  refine then_n ?_
  refine sq ?_
  refine rg ?_
  refine bsl (sz := 1) (out := ?o1) H Try.underlying23 ze5 sz5_1 (by decide) ?f1 rfl ?_
  case f1 =>
    refine FS.one (v := .int .u8 _) rfl rfl rfl (by first | decide | simp) ?_
    refine FS.one (v := .int .u8 _) rfl rfl rfl (by first | decide | simp) ?_
    refine FS.one (v := .int .u8 _) rfl rfl rfl (by first | decide | simp) ?_
    refine FS.one (v := .int .u8 _) rfl rfl rfl (by first | decide | simp) ?_
    exact FS.nil
  clear H; intro b1 w1 hb1 H F
  refine asg (v := .slice _ _ _) rfl rfl ?_
  refine nl ?_
  refine then_n ?_
  refine rt ?_
  refine fin_r ?_
  exact ⟨_, rfl, H.ge, H.look, H.fr⟩

set_option maxRecDepth 100000 in
set_option maxHeartbeats 1000000 in
theorem c_getMs (w : World)  : Calls Try.prog 57 #[] w (Ret fun v w' => ∃ b, v = .slice (some ⟨b, 0, none⟩) 2 2 ∧ w.heap.size ≤ b ∧ w'.heap[b]? = some (.cells (Bs [85, 170]).toArray 5 (0, 0)) ∧ Fr [] w w') := by
  refine enter (fun ρ => ρ 0) Try.func57 rfl rfl rfl (res1 rfl) ?_
  have H := SH.nil w
  refine sq ?_
  refine rg ?_
  refine asg (v := .slice _ _ _) rfl rfl ?_
  refine nl ?_
  refine then_n ?_
  refine sq ?_
  refine rg ?_
  refine bsl (sz := 1) (out := ?o1) H Try.underlying23 ze5 sz5_1 (by decide) ?f1 rfl ?_
  case f1 =>
    refine FS.one (v := .int .u8 _) rfl rfl rfl (by first | decide | simp) ?_
    refine FS.one (v := .int .u8 _) rfl rfl rfl (by first | decide | simp) ?_
    exact FS.nil
  clear H; intro b1 w1 hb1 H F
  refine asg (v := .slice _ _ _) rfl rfl ?_
  refine nl ?_
  refine then_n ?_
  refine rt ?_
  refine fin_r ?_
  exact ⟨_, rfl, H.ge, H.look, H.fr⟩

set_option maxRecDepth 100000 in
set_option maxHeartbeats 1000000 in
theorem c_zeroU (w : World)  : Calls Try.prog 61 #[] w (Ret fun v w' => ∃ b, v = .slice (some ⟨b, 0, none⟩) 16 16 ∧ w.heap.size ≤ b ∧ w'.heap[b]? = some (.cells (Bs (List.replicate 16 0)).toArray 5 (0, 0)) ∧ Fr [] w w') := by
  refine enter (fun ρ => ρ 0) Try.func61 rfl rfl rfl (res1 rfl) ?_
  have H := SH.nil w
  refine sq ?_
  refine rg ?_
  refine asg (v := .slice _ _ _) rfl rfl ?_
  refine nl ?_
  refine then_n ?_
  refine sq ?_
  refine rg ?_
  refine mkB H rfl rfl Try.underlying23 mi5 (by omega) (by omega) (by omega) (by omega) rfl ?_
  clear H; intro b1 w1 hb1 H _
  refine asg (v := .slice _ _ _) rfl rfl ?_
  refine nl ?_
  refine then_n ?_
  refine rt ?_
  refine fin_r ?_
  exact ⟨_, rfl, H.ge, H.look, H.fr⟩

end Go.Proofs.Ythcaejaaalkglaa.X
/- Walks of functions, printed by a program of this claim. -/
namespace Go.Proofs.Ythcaejaaalkglaa.X
set_option linter.unusedVariables false
set_option linter.unusedSimpArgs false
open Go Go.RowKit

namespace P12
theorem ag114_0 : aggB Try.prog 114 0 = true := by kernel_rfl
theorem ag116_16 : aggB Try.prog 116 16 = true := by kernel_rfl
theorem ag75_15 : aggB Try.prog 75 15 = true := by kernel_rfl
theorem bo75 : buildOK Try.prog 75 = true := by kernel_rfl
theorem ca37 : callable Try.prog 37 = true := by kernel_rfl
theorem ca44 : callable Try.prog 44 = true := by kernel_rfl
theorem ca46 : callable Try.prog 46 = true := by kernel_rfl
theorem ca47 : callable Try.prog 47 = true := by kernel_rfl
theorem ca48 : callable Try.prog 48 = true := by kernel_rfl
theorem ca49 : callable Try.prog 49 = true := by kernel_rfl
theorem ca50 : callable Try.prog 50 = true := by kernel_rfl
theorem ca51 : callable Try.prog 51 = true := by kernel_rfl
theorem ca52 : callable Try.prog 52 = true := by kernel_rfl
theorem ca53 : callable Try.prog 53 = true := by kernel_rfl
theorem ca54 : callable Try.prog 54 = true := by kernel_rfl
theorem ca55 : callable Try.prog 55 = true := by kernel_rfl
theorem ca56 : callable Try.prog 56 = true := by kernel_rfl
theorem mi5 : elemInfo Try.prog 5 = some (.int .u8 0, 1) := by kernel_rfl
theorem pl75_10 : placeOf Try.prog 75 10 = some (10, 1) := by kernel_rfl
theorem pl75_11 : placeOf Try.prog 75 11 = some (11, 1) := by kernel_rfl
theorem pl75_12 : placeOf Try.prog 75 12 = some (12, 1) := by kernel_rfl
theorem pl75_13 : placeOf Try.prog 75 13 = some (13, 1) := by kernel_rfl
theorem pl75_3 : placeOf Try.prog 75 3 = some (3, 1) := by kernel_rfl
theorem pl75_6 : placeOf Try.prog 75 6 = some (6, 1) := by kernel_rfl
theorem pl75_7 : placeOf Try.prog 75 7 = some (7, 1) := by kernel_rfl
theorem pl75_8 : placeOf Try.prog 75 8 = some (8, 1) := by kernel_rfl
theorem pl75_9 : placeOf Try.prog 75 9 = some (9, 1) := by kernel_rfl
theorem ri5 : rowInfo Try.prog 5 = some ([.int .u8 0], 1) := by kernel_rfl
theorem sz5_1 : sizeB Try.prog 5 1 = true := by kernel_rfl
theorem ze116 : zeroL Try.prog 116 = some [.int .u8 0, .int .u8 0, .int .u8 0, .int .u8 0, .int .u8 0, .int .u8 0, .int .u8 0, .int .u8 0, .int .u8 0, .int .u8 0, .int .u8 0, .int .u8 0, .int .u8 0, .int .u8 0, .int .u8 0, .int .u8 0] := by kernel_rfl
theorem ze5 : zeroL Try.prog 5 = some [.int .u8 0] := by kernel_rfl
theorem ze75 : zeroL Try.prog 75 = some [.slice none 0 0, .int .i64 0, .int .i64 0, .string ⟨#[]⟩, .bool false, .bool false, .int .i64 0, .int .u32 0, .int .u64 0, .int .u32 0, .int .u64 0, .int .u64 0, .int .u64 0, .int .u64 0, .bool false] := by kernel_rfl

end P12
open P12

set_option maxRecDepth 100000 in
set_option maxHeartbeats 2000000 in
theorem c_readHdr (w : World) (q o n c : Nat) (T : TypeId) (bs : List UInt8) (hb : w.heap[q]? = some (.cells (Bs bs).toArray T (0, 0))) (hn : 92 ≤ n) (hc : n ≤ c) (ho : o + n ≤ bs.length) (hbl : bs.length ≤ 1000000000) : Calls Try.prog 41 #[.slice (some ⟨q, o, none⟩) n c] w (Ret fun v w' => Fr [q] w w' ∧ w'.heap[q]? = some (.cells (Bs (pAt bs (o + 16) [0, 0, 0, 0])).toArray T (0, 0)) ∧ ((hdrGood bs o = true ∧ ∃ p, v = .tuple #[.pointer (some ⟨p, 0, none⟩), .nilIface] ∧ w.heap.size ≤ p ∧ w'.heap[p]? = some (.cells [.slice none 0 0, .int .i64 0, .int .i64 0, .string (str (gT (pcs bs (o + 56) 16))), .bool false, .bool false, .int .i64 (fld bs (o + 80) 4), .int .u32 (fld bs (o + 84) 4), .int .u64 (fld bs (o + 72) 8), .int .u32 (fld bs (o + 88) 4), .int .u64 (fld bs (o + 24) 8), .int .u64 (fld bs (o + 32) 8), .int .u64 (fld bs (o + 40) 8), .int .u64 (fld bs (o + 48) 8), .bool false].toArray 75 (0, 0))) ∨ (hdrGood bs o = false ∧ ∃ e, v = .tuple #[.pointer none, .iface 104 e]))) := by
  refine enter (fun ρ => .tuple #[ρ 2, ρ 3]) Try.func41 rfl rfl rfl (res2 rfl) ?_
  have H := SH.rw1 hb
  have h92 : o + 92 ≤ bs.length := by omega
  have hp4 : (pcs bs (o + 16) 4).length = 4 := pcs_len (by omega)
  have hp16 : (pcs bs (o + 56) 16).length = 16 := pcs_len (by omega)
  have hcr := crc32_rng (zHdr (pcs bs o 92))
  have h80 : 0 ≤ leV (pcs bs (o + 80) 4) ∧ leV (pcs bs (o + 80) 4) ≤ 4294967295 := fld_rng (by decide)
  refine sq ?_
  refine rg ?_
  refine asg (v := .pointer _) rfl rfl ?_
  refine asg (v := .nilIface) rfl rfl ?_
  refine nl ?_
  refine then_n ?_
  refine sq ?_
  refine rg ?_
  refine mv (v := .slice _ _ _) rfl rfl ?_
  refine asg (v := .slice _ _ _) rfl rfl ?_
  refine nl ?_
  refine then_n ?_
  refine sq ?_
  refine rg ?_
  refine mv (v := .slice _ _ _) rfl rfl ?_
  refine sllhN (o + 0) (8) (c - 0) rfl rfl rfl Try.underlying23 sz5_1 (by omega) (by omega) rfl ?_
  refine asg (v := .slice _ _ _) rfl rfl ?_
  refine nl ?_
  refine then_n ?_
  refine sq ?_
  refine rg ?_
  refine mv (v := .slice _ _ _) rfl rfl ?_
  refine sllhN (o + 8) (4) (c - 8) rfl rfl rfl Try.underlying23 sz5_1 (by omega) (by omega) rfl ?_
  refine asg (v := .slice _ _ _) rfl rfl ?_
  refine nl ?_
  refine then_n ?_
  refine sq ?_
  refine rg ?_
  refine mv (v := .slice _ _ _) rfl rfl ?_
  refine sllhN (o + 12) (4) (c - 12) rfl rfl rfl Try.underlying23 sz5_1 (by omega) (by omega) rfl ?_
  refine asg (v := .slice _ _ _) rfl rfl ?_
  refine nl ?_
  refine then_n ?_
  refine sq ?_
  refine dr (by kernel_rfl) ?_   -- region 5
  have H := H.drew
  refine hold (fun _ => True) [] ?_
  refine tk (i := 1) rfl (by kernel_rfl) rfl trivial (fun _ _ => r_mv (v := .slice _ _ _) rfl) ?_
  refine tk (i := 2) rfl (by kernel_rfl) rfl trivial (fun _ _ => r_sllhN (o + 16) (4) (c - 16) rfl rfl rfl Try.underlying23 sz5_1 (by omega) (by omega)) ?_
  refine unfree ?_
  refine fo (i := 0) (by kernel_rfl) rfl rfl ?_
  refine mkB H rfl rfl Try.underlying23 mi5 (by omega) (by omega) (by omega) (by omega) rfl ?_
  clear H; intro b1 w1 hb1 H _
  refine nl ?_
  refine then_n ?_
  refine fo (i := 3) (by kernel_rfl) rfl rfl ?_
  refine apS (zs := [.int .u8 0]) (Bs (pcs bs (o + 16) 4)) (OR.made (n := 0) H (by decide) (by decide) rfl) rfl rfl Try.underlying23 ri5 (by rw [Bs_length, hp4]; rfl) (RB.cells (n := 4) (RB.of (b := q) (o := o + 16) (n := 4) H (by omega))) Bs_one (by simp) (by omega) (by unfold maxLen; omega) rfl ?_
  clear H; intro a9 cp9 w2 O
  obtain ⟨q9, cur, rfl, hn9, hcm, hcl, htk, H⟩ := O.blk
  obtain ⟨junk, hj⟩ := take_split (htk.trans (List.nil_append _))
  subst hj; clear htk
  refine nl ?_
  refine then_n ?_
  refine holdH H [] ?_
  refine tk (i := 4) rfl (by kernel_rfl) rfl H (fun w' H => r_asg (v := .slice _ _ _) rfl) ?_
  refine da (by kernel_rfl) ?_
  refine then_n ?_
  refine sq ?_
  refine rg ?_
  refine lw (vs := []) rfl ag114_0 rfl (by simp) rfl ?_
  refine mv (v := .slice _ _ _) rfl rfl ?_
  refine cl ca46 (c_uint32 _ _ _ _ (pcs bs (o + 16) 4) (RB.bj H hp4) rfl) rfl ?_
  rintro _ w3 ⟨rfl, F⟩
  replace H := H.keep F; clear F
  refine asg (v := .int .u32 _) rfl rfl ?_
  refine nl ?_
  refine then_n ?_
  refine sq ?_
  refine rg ?_
  refine mv (v := .slice _ _ _) rfl rfl ?_
  refine sllhN (o + 20) (4) (c - 20) rfl rfl rfl Try.underlying23 sz5_1 (by omega) (by omega) rfl ?_
  refine asg (v := .slice _ _ _) rfl rfl ?_
  refine nl ?_
  refine then_n ?_
  refine sq ?_
  refine dr (by kernel_rfl) ?_   -- region 8
  have H := H.drew
  refine hold (fun _ => True) [] ?_
  refine tk (i := 1) rfl (by kernel_rfl) rfl trivial (fun _ _ => r_mv (v := .slice _ _ _) rfl) ?_
  refine tk (i := 2) rfl (by kernel_rfl) rfl trivial (fun _ _ => r_sllhN (o + 24) (8) (c - 24) rfl rfl rfl Try.underlying23 sz5_1 (by omega) (by omega)) ?_
  refine unfree ?_
  refine holdH H [] ?_
  refine tk (i := 0) rfl (by kernel_rfl) rfl H (fun w' H => r_lw (vs := []) rfl ag114_0 rfl (by simp)) ?_
  refine fk (i := 3) (by kernel_rfl) rfl rfl rfl ?_
  refine cl ca47 (c_uint64 _ _ _ _ (pcs bs (o + 24) 8) (RB.of (b := q) (o := o + 24) (n := 8) H (by omega)) rfl) rfl ?_
  rintro _ w4 ⟨rfl, F⟩
  replace H := H.keep F; clear F
  refine nl ?_
  refine then_n ?_
  refine ⟨H, ?_⟩
  refine tk (i := 4) rfl (by kernel_rfl) rfl H (fun w' H => r_asg (v := .int .u64 _) rfl) ?_
  refine da (by kernel_rfl) ?_
  refine then_n ?_
  refine sq ?_
  refine dr (by kernel_rfl) ?_   -- region 9
  have H := H.drew
  refine hold (fun _ => True) [] ?_
  refine tk (i := 1) rfl (by kernel_rfl) rfl trivial (fun _ _ => r_mv (v := .slice _ _ _) rfl) ?_
  refine tk (i := 2) rfl (by kernel_rfl) rfl trivial (fun _ _ => r_sllhN (o + 32) (8) (c - 32) rfl rfl rfl Try.underlying23 sz5_1 (by omega) (by omega)) ?_
  refine unfree ?_
  refine holdH H [] ?_
  refine tk (i := 0) rfl (by kernel_rfl) rfl H (fun w' H => r_lw (vs := []) rfl ag114_0 rfl (by simp)) ?_
  refine fk (i := 3) (by kernel_rfl) rfl rfl rfl ?_
  refine cl ca47 (c_uint64 _ _ _ _ (pcs bs (o + 32) 8) (RB.of (b := q) (o := o + 32) (n := 8) H (by omega)) rfl) rfl ?_
  rintro _ w5 ⟨rfl, F⟩
  replace H := H.keep F; clear F
  refine nl ?_
  refine then_n ?_
  refine ⟨H, ?_⟩
  refine tk (i := 4) rfl (by kernel_rfl) rfl H (fun w' H => r_asg (v := .int .u64 _) rfl) ?_
  refine da (by kernel_rfl) ?_
  refine then_n ?_
  refine sq ?_
  refine dr (by kernel_rfl) ?_   -- region 10
  have H := H.drew
  refine hold (fun _ => True) [] ?_
  refine tk (i := 1) rfl (by kernel_rfl) rfl trivial (fun _ _ => r_mv (v := .slice _ _ _) rfl) ?_
  refine tk (i := 2) rfl (by kernel_rfl) rfl trivial (fun _ _ => r_sllhN (o + 40) (8) (c - 40) rfl rfl rfl Try.underlying23 sz5_1 (by omega) (by omega)) ?_
  refine unfree ?_
  refine holdH H [] ?_
  refine tk (i := 0) rfl (by kernel_rfl) rfl H (fun w' H => r_lw (vs := []) rfl ag114_0 rfl (by simp)) ?_
  refine fk (i := 3) (by kernel_rfl) rfl rfl rfl ?_
  refine cl ca47 (c_uint64 _ _ _ _ (pcs bs (o + 40) 8) (RB.of (b := q) (o := o + 40) (n := 8) H (by omega)) rfl) rfl ?_
  rintro _ w6 ⟨rfl, F⟩
  replace H := H.keep F; clear F
  refine nl ?_
  refine then_n ?_
  refine ⟨H, ?_⟩
  refine tk (i := 4) rfl (by kernel_rfl) rfl H (fun w' H => r_asg (v := .int .u64 _) rfl) ?_
  refine da (by kernel_rfl) ?_
  refine then_n ?_
  refine sq ?_
  refine dr (by kernel_rfl) ?_   -- region 11
  have H := H.drew
  refine hold (fun _ => True) [] ?_
  refine tk (i := 1) rfl (by kernel_rfl) rfl trivial (fun _ _ => r_mv (v := .slice _ _ _) rfl) ?_
  refine tk (i := 2) rfl (by kernel_rfl) rfl trivial (fun _ _ => r_sllhN (o + 48) (8) (c - 48) rfl rfl rfl Try.underlying23 sz5_1 (by omega) (by omega)) ?_
  refine unfree ?_
  refine holdH H [] ?_
  refine tk (i := 0) rfl (by kernel_rfl) rfl H (fun w' H => r_lw (vs := []) rfl ag114_0 rfl (by simp)) ?_
  refine fk (i := 3) (by kernel_rfl) rfl rfl rfl ?_
  refine cl ca47 (c_uint64 _ _ _ _ (pcs bs (o + 48) 8) (RB.of (b := q) (o := o + 48) (n := 8) H (by omega)) rfl) rfl ?_
  rintro _ w7 ⟨rfl, F⟩
  replace H := H.keep F; clear F
  refine nl ?_
  refine then_n ?_
  refine ⟨H, ?_⟩
  refine tk (i := 4) rfl (by kernel_rfl) rfl H (fun w' H => r_asg (v := .int .u64 _) rfl) ?_
  refine da (by kernel_rfl) ?_
  refine then_n ?_
  refine sq ?_
  refine rg ?_
  refine mv (v := .slice _ _ _) rfl rfl ?_
  refine sllhN (o + 56) (16) (c - 56) rfl rfl rfl Try.underlying23 sz5_1 (by omega) (by omega) rfl ?_
  refine cl ca49 (c_toUUID _ (some ⟨q, o + 56, none⟩) 16 _ (pcs bs (o + 56) 16) (RB.of (b := q) (o := o + 56) (n := 16) H (by omega)) rfl (by omega) ⟨_, _, rfl⟩) rfl ?_
  rintro _ w8 ⟨b2, cq2, jk2, rfl, hb2, ho2, F⟩
  replace H := H.new F hb2 ho2; clear F ho2
  refine cl ca48 (c_fromBytes _ _ _ _ (permB (pcs bs (o + 56) 16)) (RB.bj H (permB_len _)) rfl) rfl ?_
  rintro _ w9 ⟨rfl, F⟩
  replace H := H.keep F; clear F
  refine mv (v := .tuple _) rfl rfl ?_
  refine xt rfl rfl rfl ?_
  refine xt rfl rfl rfl ?_
  refine al H ze116 rfl ?_
  clear H; intro b3 w10 hb3 H _
  refine sa (cs' := Bs (permB (pcs bs (o + 56) 16))) H rfl rfl ag116_16 (by rw [Bs_length, permB_len]) (List.all_eq_true.2 Bs_one) (by decide) (by omega) (List.append_nil _) ?_
  clear H; intro w91 H _
  first | refine asg (v := .nilIface) rfl rfl ?_ | refine asg (v := .iface _ _) rfl rfl ?_ | refine asg rfl rfl ?_
  refine nl ?_
  refine then_n ?_
  refine sq ?_
  refine sq ?_
  refine rg ?_
  first | refine mv (v := .nilIface) rfl rfl ?_ | refine mv (v := .iface _ _) rfl rfl ?_ | refine mv rfl rfl ?_
  first | refine neqI1 rfl Try.underlying70 rfl ?_ | refine neqI0 rfl Try.underlying70 rfl ?_
  refine nl ?_
  refine then_n ?_
  first | refine cF rfl rfl ?_ | refine cbF rfl rfl ?_   -- test 1
  refine sk ?_
  refine then_n ?_
  refine sq ?_
  refine dr (by kernel_rfl) ?_   -- region 15
  have H := H.drew
  refine hold (fun _ => True) [] ?_
  refine tk (i := 1) rfl (by kernel_rfl) rfl trivial (fun _ _ => r_mv (v := .slice _ _ _) rfl) ?_
  refine tk (i := 2) rfl (by kernel_rfl) rfl trivial (fun _ _ => r_sllhN (o + 72) (8) (c - 72) rfl rfl rfl Try.underlying23 sz5_1 (by omega) (by omega)) ?_
  refine unfree ?_
  refine holdH H [] ?_
  refine tk (i := 0) rfl (by kernel_rfl) rfl H (fun w' H => r_lw (vs := []) rfl ag114_0 rfl (by simp)) ?_
  refine fk (i := 3) (by kernel_rfl) rfl rfl rfl ?_
  refine cl ca47 (c_uint64 _ _ _ _ (pcs bs (o + 72) 8) (RB.of (b := q) (o := o + 72) (n := 8) H (by omega)) rfl) rfl ?_
  rintro _ w11 ⟨rfl, F⟩
  replace H := H.keep F; clear F
  refine nl ?_
  refine then_n ?_
  refine ⟨H, ?_⟩
  refine tk (i := 4) rfl (by kernel_rfl) rfl H (fun w' H => r_asg (v := .int .u64 _) rfl) ?_
  refine da (by kernel_rfl) ?_
  refine then_n ?_
  refine sq ?_
  refine dr (by kernel_rfl) ?_   -- region 16
  have H := H.drew
  refine hold (fun _ => True) [] ?_
  refine tk (i := 1) rfl (by kernel_rfl) rfl trivial (fun _ _ => r_mv (v := .slice _ _ _) rfl) ?_
  refine tk (i := 2) rfl (by kernel_rfl) rfl trivial (fun _ _ => r_sllhN (o + 80) (4) (c - 80) rfl rfl rfl Try.underlying23 sz5_1 (by omega) (by omega)) ?_
  refine unfree ?_
  refine holdH H [] ?_
  refine tk (i := 0) rfl (by kernel_rfl) rfl H (fun w' H => r_lw (vs := []) rfl ag114_0 rfl (by simp)) ?_
  refine fk (i := 3) (by kernel_rfl) rfl rfl rfl ?_
  refine cl ca46 (c_uint32 _ _ _ _ (pcs bs (o + 80) 4) (RB.of (b := q) (o := o + 80) (n := 4) H (by omega)) rfl) rfl ?_
  rintro _ w12 ⟨rfl, F⟩
  replace H := H.keep F; clear F
  refine nl ?_
  refine then_n ?_
  refine ⟨H, ?_⟩
  refine tk (i := 4) rfl (by kernel_rfl) rfl H (fun w' H => r_asg (v := .int .u32 _) rfl) ?_
  refine da (by kernel_rfl) ?_
  refine then_n ?_
  refine sq ?_
  refine dr (by kernel_rfl) ?_   -- region 17
  have H := H.drew
  refine hold (fun _ => True) [] ?_
  refine tk (i := 1) rfl (by kernel_rfl) rfl trivial (fun _ _ => r_mv (v := .slice _ _ _) rfl) ?_
  refine tk (i := 2) rfl (by kernel_rfl) rfl trivial (fun _ _ => r_sllhN (o + 84) (4) (c - 84) rfl rfl rfl Try.underlying23 sz5_1 (by omega) (by omega)) ?_
  refine unfree ?_
  refine holdH H [] ?_
  refine tk (i := 0) rfl (by kernel_rfl) rfl H (fun w' H => r_lw (vs := []) rfl ag114_0 rfl (by simp)) ?_
  refine fk (i := 3) (by kernel_rfl) rfl rfl rfl ?_
  refine cl ca46 (c_uint32 _ _ _ _ (pcs bs (o + 84) 4) (RB.of (b := q) (o := o + 84) (n := 4) H (by omega)) rfl) rfl ?_
  rintro _ w13 ⟨rfl, F⟩
  replace H := H.keep F; clear F
  refine nl ?_
  refine then_n ?_
  refine ⟨H, ?_⟩
  refine tk (i := 4) rfl (by kernel_rfl) rfl H (fun w' H => r_asg (v := .int .u32 _) rfl) ?_
  refine da (by kernel_rfl) ?_
  refine then_n ?_
  refine sq ?_
  refine dr (by kernel_rfl) ?_   -- region 18
  have H := H.drew
  refine hold (fun _ => True) [] ?_
  refine tk (i := 1) rfl (by kernel_rfl) rfl trivial (fun _ _ => r_mv (v := .slice _ _ _) rfl) ?_
  refine tk (i := 2) rfl (by kernel_rfl) rfl trivial (fun _ _ => r_sllhN (o + 88) (4) (c - 88) rfl rfl rfl Try.underlying23 sz5_1 (by omega) (by omega)) ?_
  refine unfree ?_
  refine holdH H [] ?_
  refine tk (i := 0) rfl (by kernel_rfl) rfl H (fun w' H => r_lw (vs := []) rfl ag114_0 rfl (by simp)) ?_
  refine fk (i := 3) (by kernel_rfl) rfl rfl rfl ?_
  refine cl ca46 (c_uint32 _ _ _ _ (pcs bs (o + 88) 4) (RB.of (b := q) (o := o + 88) (n := 4) H (by omega)) rfl) rfl ?_
  rintro _ w14 ⟨rfl, F⟩
  replace H := H.keep F; clear F
  refine nl ?_
  refine then_n ?_
  refine ⟨H, ?_⟩
  refine tk (i := 4) rfl (by kernel_rfl) rfl H (fun w' H => r_asg (v := .int .u32 _) rfl) ?_
  refine da (by kernel_rfl) ?_
  refine then_n ?_
  refine sq ?_
  refine rg ?_
  refine mv (v := .slice _ _ _) rfl rfl ?_
  refine sllhN (o + 16) (4) (c - 16) rfl rfl rfl Try.underlying23 sz5_1 (by omega) (by omega) rfl ?_
  refine bsl (sz := 1) (out := ?o1) H Try.underlying23 ze5 sz5_1 (by decide) ?f1 rfl ?_
  case f1 =>
    refine FS.one (v := .int .u8 _) rfl rfl rfl (by first | decide | simp) ?_
    refine FS.one (v := .int .u8 _) rfl rfl rfl (by first | decide | simp) ?_
    refine FS.one (v := .int .u8 _) rfl rfl rfl (by first | decide | simp) ?_
    refine FS.one (v := .int .u8 _) rfl rfl rfl (by first | decide | simp) ?_
    exact FS.nil
  clear H; intro b4 w15 hb4 H F
  refine cpP (bs := [0, 0, 0, 0]) H rfl rfl Try.underlying23 sz5_1 (RB.allL [0, 0, 0, 0] H rfl) (by decide) (by omega) (by omega) rfl ?_
  clear H; intro w16 H _ hlen
  refine nl ?_
  refine then_n ?_
  refine sq ?_
  refine sq ?_
  refine rg ?_
  refine mv (v := .slice _ _ _) rfl rfl ?_
  refine cl ca51 (c_getSig _) rfl ?_
  rintro _ w17 ⟨b5, rfl, hb5, ho5, F⟩
  replace H := H.new F hb5 ho5; clear F ho5
  refine cl ca50 (c_bytesEqual _ _ _ _ _ _ _ (pcs bs (o + 0) 8) efiL (by have e := RB.of (b := q) (o := o + 0) (n := 8) H (by rw [zero_len h92]; omega); rw [zero_lt h92 (by omega)] at e; exact e) (RB.allL efiL H rfl)) rfl ?_
  rintro _ w18 ⟨rfl, F⟩
  replace H := H.keep F; clear F
  refine unot rfl rfl ?_
  refine nl ?_
  refine then_n ?_
  first | refine cd rfl (fun hc2 => ?_) (fun hc2 => ?_) | refine cn rfl (fun hc2 => ?_) (fun hc2 => ?_)   -- test 2
  · refine sq ?_
    refine rg ?_
    refine cl ca37 (c_errNew _ _) rfl ?_
    rintro _ w19 ⟨⟨be6, rfl⟩, F⟩
    replace H := H.keep F; clear F
    refine asg (v := .pointer _) rfl rfl ?_
    first | refine asg (v := .nilIface) rfl rfl ?_ | refine asg (v := .iface _ _) rfl rfl ?_ | refine asg rfl rfl ?_
    refine nl ?_
    refine then_n ?_
    refine rt ?_
    refine then_r ?_
    refine fin_r ?_
    refine ⟨H.fr, H.look, .inr ⟨?_, _, rfl⟩⟩
    unfold hdrGood sigOk crcOk
    simp only [Nat.add_zero] at *
    simp_all [fld]
  · refine sk ?_
    refine then_n ?_
    refine sq ?_
    refine sq ?_
    refine rg ?_
    refine mv (v := .slice _ _ _) rfl rfl ?_
    refine cl ca52 (c_getRev _) rfl ?_
    rintro _ w20 ⟨b7, rfl, hb7, ho7, F⟩
    replace H := H.new F hb7 ho7; clear F ho7
    refine cl ca50 (c_bytesEqual _ _ _ _ _ _ _ (pcs bs (o + 8) 4) [0, 0, 1, 0] (by have e := RB.of (b := q) (o := o + 8) (n := 4) H (by rw [zero_len h92]; omega); rw [zero_lt h92 (by omega)] at e; exact e) (RB.allL [0, 0, 1, 0] H rfl)) rfl ?_
    rintro _ w21 ⟨rfl, F⟩
    replace H := H.keep F; clear F
    refine unot rfl rfl ?_
    refine nl ?_
    refine then_n ?_
    first | refine cd rfl (fun hc3 => ?_) (fun hc3 => ?_) | refine cn rfl (fun hc3 => ?_) (fun hc3 => ?_)   -- test 3
    · refine sq ?_
      refine rg ?_
      refine cl ca37 (c_errNew _ _) rfl ?_
      rintro _ w22 ⟨⟨be8, rfl⟩, F⟩
      replace H := H.keep F; clear F
      refine asg (v := .pointer _) rfl rfl ?_
      first | refine asg (v := .nilIface) rfl rfl ?_ | refine asg (v := .iface _ _) rfl rfl ?_ | refine asg rfl rfl ?_
      refine nl ?_
      refine then_n ?_
      refine rt ?_
      refine then_r ?_
      refine fin_r ?_
      refine ⟨H.fr, H.look, .inr ⟨?_, _, rfl⟩⟩
      unfold hdrGood sigOk crcOk
      simp only [Nat.add_zero] at *
      simp_all [fld]
    · refine sk ?_
      refine then_n ?_
      refine sq ?_
      refine sq ?_
      refine rg ?_
      refine mv (v := .slice _ _ _) rfl rfl ?_
      refine cl ca53 (c_getHs _) rfl ?_
      rintro _ w23 ⟨b9, rfl, hb9, ho9, F⟩
      replace H := H.new F hb9 ho9; clear F ho9
      refine cl ca50 (c_bytesEqual _ _ _ _ _ _ _ (pcs bs (o + 12) 4) [92, 0, 0, 0] (by have e := RB.of (b := q) (o := o + 12) (n := 4) H (by rw [zero_len h92]; omega); rw [zero_lt h92 (by omega)] at e; exact e) (RB.allL [92, 0, 0, 0] H rfl)) rfl ?_
      rintro _ w24 ⟨rfl, F⟩
      replace H := H.keep F; clear F
      refine unot rfl rfl ?_
      refine nl ?_
      refine then_n ?_
      first | refine cd rfl (fun hc4 => ?_) (fun hc4 => ?_) | refine cn rfl (fun hc4 => ?_) (fun hc4 => ?_)   -- test 4
      · refine sq ?_
        refine rg ?_
        refine cl ca37 (c_errNew _ _) rfl ?_
        rintro _ w25 ⟨⟨be10, rfl⟩, F⟩
        replace H := H.keep F; clear F
        refine asg (v := .pointer _) rfl rfl ?_
        first | refine asg (v := .nilIface) rfl rfl ?_ | refine asg (v := .iface _ _) rfl rfl ?_ | refine asg rfl rfl ?_
        refine nl ?_
        refine then_n ?_
        refine rt ?_
        refine then_r ?_
        refine fin_r ?_
        refine ⟨H.fr, H.look, .inr ⟨?_, _, rfl⟩⟩
        unfold hdrGood sigOk crcOk
        simp only [Nat.add_zero] at *
        simp_all [fld]
      · refine sk ?_
        refine then_n ?_
        refine sq ?_
        refine sq ?_
        refine rg ?_
        refine mv (v := .slice _ _ _) rfl rfl ?_
        refine cl ca54 (c_getZ _) rfl ?_
        rintro _ w26 ⟨b11, rfl, hb11, ho11, F⟩
        replace H := H.new F hb11 ho11; clear F ho11
        refine cl ca50 (c_bytesEqual _ _ _ _ _ _ _ (pcs bs (o + 20) 4) [0, 0, 0, 0] (by have e := RB.of (b := q) (o := o + 20) (n := 4) H (by rw [zero_len h92]; omega); rw [zero_gt h92 (by omega)] at e; exact e) (RB.allL [0, 0, 0, 0] H rfl)) rfl ?_
        rintro _ w27 ⟨rfl, F⟩
        replace H := H.keep F; clear F
        refine unot rfl rfl ?_
        refine nl ?_
        refine then_n ?_
        first | refine cd rfl (fun hc5 => ?_) (fun hc5 => ?_) | refine cn rfl (fun hc5 => ?_) (fun hc5 => ?_)   -- test 5
        · refine sq ?_
          refine rg ?_
          refine cl ca37 (c_errNew _ _) rfl ?_
          rintro _ w28 ⟨⟨be12, rfl⟩, F⟩
          replace H := H.keep F; clear F
          refine asg (v := .pointer _) rfl rfl ?_
          first | refine asg (v := .nilIface) rfl rfl ?_ | refine asg (v := .iface _ _) rfl rfl ?_ | refine asg rfl rfl ?_
          refine nl ?_
          refine then_n ?_
          refine rt ?_
          refine then_r ?_
          refine fin_r ?_
          refine ⟨H.fr, H.look, .inr ⟨?_, _, rfl⟩⟩
          unfold hdrGood sigOk crcOk
          simp only [Nat.add_zero] at *
          simp_all [fld]
        · refine sk ?_
          refine then_n ?_
          refine sq ?_
          refine rg ?_
          refine mv (v := .slice _ _ _) rfl rfl ?_
          refine sllhN (o + 0) (92) (c - 0) rfl rfl rfl Try.underlying23 sz5_1 (by omega) (by omega) rfl ?_
          refine cl ca44 (c_zzCrc _ _ _ _ (zHdr (pcs bs o 92)) (by have e := RB.of (b := q) (o := o + 0) (n := 92) H (by rw [zero_len h92]; omega); rw [Nat.add_zero, zero_all h92] at e; exact e) (by decide)) rfl ?_
          rintro _ w29 ⟨rfl, F⟩
          replace H := H.keep F; clear F
          refine asg (v := .int .u32 _) rfl rfl ?_
          refine nl ?_
          refine then_n ?_
          refine sq ?_
          refine sq ?_
          refine rg ?_
          refine mv (v := .int .u32 _) rfl rfl ?_
          refine mv (v := .int .u32 _) rfl rfl ?_
          refine neq rfl rfl rfl ?_
          refine nl ?_
          refine then_n ?_
          first | refine cd rfl (fun hc6 => ?_) (fun hc6 => ?_) | refine cn rfl (fun hc6 => ?_) (fun hc6 => ?_)   -- test 6
          · refine sq ?_
            refine rg ?_
            refine cl ca37 (c_errNew _ _) rfl ?_
            rintro _ w30 ⟨⟨be13, rfl⟩, F⟩
            replace H := H.keep F; clear F
            refine asg (v := .pointer _) rfl rfl ?_
            first | refine asg (v := .nilIface) rfl rfl ?_ | refine asg (v := .iface _ _) rfl rfl ?_ | refine asg rfl rfl ?_
            refine nl ?_
            refine then_n ?_
            refine rt ?_
            refine then_r ?_
            refine fin_r ?_
            refine ⟨H.fr, H.look, .inr ⟨?_, _, rfl⟩⟩
            unfold hdrGood sigOk crcOk
            simp only [Nat.add_zero] at *
            simp_all [fld]
            exact decide_eq_false (fun h => hc6 h.symm)
          · refine sk ?_
            refine then_n ?_
            refine sq ?_
            refine rg ?_
            refine mv (v := .int .u32 _) rfl rfl ?_
            refine mv (v := .int .u64 _) rfl rfl ?_
            refine mv (v := .int .u64 _) rfl rfl ?_
            refine mv (v := .int .u64 _) rfl rfl ?_
            refine mv (v := .int .u64 _) rfl rfl ?_
            refine mv (v := .int .u32 _) rfl rfl ?_
            refine cvi rfl rfl Try.underlying3 (by first | exact w_i64 (by omega) | exact w_i64 (rng_i64 _) | rfl) rfl ?_
            refine mv (v := .int .u64 _) rfl rfl ?_
            refine la (vs := Bs (permB (pcs bs (o + 56) 16))) H rfl ag116_16 (by rw [Bs_length, permB_len]) (by rw [List.drop_zero, List.take_of_length_le (by rw [Bs_length, permB_len]; decide)]) rfl ?_
            refine cl ca56 (c_uuString _ _ (permB_len _)) rfl ?_
            rintro _ w31 ⟨rfl, F⟩
            replace H := H.keep F; clear F
            refine cl ca55 (c_upper _ _ (by have := sTp_len (permB (pcs bs (o + 56) 16)) 16; unfold sT; omega)) rfl ?_
            rintro _ w32 ⟨rfl, F⟩
            replace H := H.keep F; clear F
            rw [up_sT hp16]
            refine mv (v := .int .u32 _) rfl rfl ?_
            refine bu (out := ?o2) ze75 bo75 ?f2 rfl ?_
            case f2 =>
              refine FL.one (v := .int .u32 _) rfl pl75_7 rfl (by first | decide | simp) ?_
              refine FL.one (v := .int .u64 _) rfl pl75_10 rfl (by first | decide | simp) ?_
              refine FL.one (v := .int .u64 _) rfl pl75_11 rfl (by first | decide | simp) ?_
              refine FL.one (v := .int .u64 _) rfl pl75_12 rfl (by first | decide | simp) ?_
              refine FL.one (v := .int .u64 _) rfl pl75_13 rfl (by first | decide | simp) ?_
              refine FL.one (v := .int .i64 _) rfl pl75_6 rfl (by first | decide | simp) ?_
              refine FL.one (v := .int .u64 _) rfl pl75_8 rfl (by first | decide | simp) ?_
              refine FL.one (v := .string _) rfl pl75_3 rfl (by first | decide | simp) ?_
              refine FL.one (v := .int .u32 _) rfl pl75_9 rfl (by first | decide | simp) ?_
              exact FL.nil
            refine al H ze75 rfl ?_
            clear H; intro b14 w33 hb14 H _
            refine sa H rfl rfl ag75_15 rfl rfl (by decide) (by omega) rfl ?_
            clear H; intro w34 H _
            refine nl ?_
            refine then_n ?_
            refine sq ?_
            refine rg ?_
            refine asg (v := .pointer _) rfl rfl ?_
            refine asg (v := .nilIface) rfl rfl ?_
            refine nl ?_
            refine then_n ?_
            refine rt ?_
            refine fin_r ?_
            replace H := sh_cells0 (cs' := [.slice none 0 0, .int .i64 0, .int .i64 0, .string (str (gT (pcs bs (o + 56) 16))), .bool false, .bool false, .int .i64 (fld bs (o + 80) 4), .int .u32 (fld bs (o + 84) 4), .int .u64 (fld bs (o + 72) 8), .int .u32 (fld bs (o + 88) 4), .int .u64 (fld bs (o + 24) 8), .int .u64 (fld bs (o + 32) 8), .int .u64 (fld bs (o + 40) 8), .int .u64 (fld bs (o + 48) 8), .bool false]) H rfl
            refine ⟨H.fr, H.look, .inl ⟨?_, _, rfl, H.ge1 rfl (y := ⟨q, _, true⟩) (by repeat (first | exact .head _ | apply List.Mem.tail)) rfl, H.look⟩⟩
            unfold hdrGood sigOk crcOk
            simp only [Nat.add_zero] at *
            simp_all [fld]

end Go.Proofs.Ythcaejaaalkglaa.X
/- Walks of functions, printed by a program of this claim. -/
namespace Go.Proofs.Ythcaejaaalkglaa.X
set_option linter.unusedVariables false
set_option linter.unusedSimpArgs false
open Go Go.RowKit

namespace P13
theorem ag114_0 : aggB Try.prog 114 0 = true := by kernel_rfl
theorem ca46 : callable Try.prog 46 = true := by kernel_rfl
theorem ca50 : callable Try.prog 50 = true := by kernel_rfl
theorem ca57 : callable Try.prog 57 = true := by kernel_rfl
theorem ca58 : callable Try.prog 58 = true := by kernel_rfl
theorem sc5 : scalarB Try.prog 5 = true := by kernel_rfl
theorem sz5_1 : sizeB Try.prog 5 1 = true := by kernel_rfl

end P13
open P13

set_option maxRecDepth 100000 in
set_option maxHeartbeats 1000000 in
theorem c_zeroMatch (w : World) (B : Option Addr) (n c : Nat) (xs : List UInt8) (hR : RB w B n xs) (hn : n ≤ 1000000000) : Calls Try.prog 58 #[.slice B n c] w (Ret fun v w' => v = .bool (zAll xs) ∧ Fr [] w w') := by
  refine enter (fun ρ => ρ 2) Try.func58 rfl rfl rfl (res1 rfl) ?_
  have H := SH.nil w
  have hRl := hR.1
  refine sq ?_
  refine rg ?_
  refine asg (v := .bool _) rfl rfl ?_
  refine nl ?_
  refine then_n ?_
  refine sq ?_
  refine sq ?_
  refine rg ?_
  refine mv (v := .slice _ _ _) rfl rfl ?_
  refine lnS rfl Try.underlying23 rfl ?_
  refine lss rfl rfl rfl ?_
  refine nl ?_
  refine then_n ?_
  first | refine cd rfl (fun hc1 => ?_) (fun hc1 => ?_) | refine cn rfl (fun hc1 => ?_) (fun hc1 => ?_)   -- test 1
  · refine sq ?_
    refine rg ?_
    refine asg (v := .bool _) rfl rfl ?_
    refine nl ?_
    refine then_n ?_
    refine rt ?_
    refine then_r ?_
    refine fin_r ?_
    exact ⟨congrArg Value.bool (by unfold zAll; exact (decide_eq_true (fun j hj => by omega)).symm), H.fr⟩
  · refine sk ?_
    refine then_n ?_
    refine sq ?_
    refine sq ?_
    refine rg ?_
    refine mv (v := .slice _ _ _) rfl rfl ?_
    refine lnS rfl Try.underlying23 rfl ?_
    refine mv (v := .int .i64 _) rfl rfl ?_
    refine nl ?_
    refine then_n ?_
    refine bk ?_
    refine lpM (α := Nat) [2, 4, 10, 11, 12, 13, 14, 15, 16] (fun i => [(10, .int .i64 (i : Int))]) (fun i w' => i ≤ n ∧ (∀ j, j < i → (xs.getD j 0).toNat = 0) ∧ SH w [] w' []) (fun i => n - i) 0 ?_ (fC (by first | rfl | exact congrArg (Value.int _) (by first | omega | assumption | (symm; assumption) | (simp; done) | (simp; omega)) | exact congrArg (fun n => Value.slice _ n _) (by first | omega | (simp; done) | (simp; omega))) (fN _)) ?_   -- loop 1
    · exact ⟨by omega, fun j hj => by omega, H⟩
    · rintro i ρx w1 ⟨hi, hz, H⟩
      refine sq ?_
      refine rg ?_
      refine lss rfl rfl rfl ?_
      refine nl ?_
      refine then_n ?_
      refine sq ?_
      first | refine cd rfl (fun hc2 => ?_) (fun hc2 => ?_) | refine cn rfl (fun hc2 => ?_) (fun hc2 => ?_)   -- test 2
      · obtain ⟨ad, rfl, hcell⟩ := hR.2 i (by omega)
        have hcell := H.fr.cell hcell (by simp)
        refine sk ?_
        refine then_n ?_
        refine sq ?_
        refine bk ?_
        refine sq ?_
        refine rg ?_
        first | refine ia rfl rfl Try.underlying23 sz5_1 (by omega) rfl ?_ | refine iA rfl rfl Try.underlying23 sz5_1 (by omega) rfl ?_
        first | (refine ldb H rfl sc5 (by omega) rfl ?_; intro hu1) | refine ld H rfl sc5 rfl rfl ?_ | refine lc rfl (by first | assumption | exact H.fr.cell (by assumption) (by simp)) sc5 rfl ?_
        refine asg (v := .int .u8 _) rfl rfl ?_
        refine nl ?_
        refine then_n ?_
        refine sq ?_
        refine rg ?_
        refine mv (v := .int .u8 _) rfl rfl ?_
        refine neq rfl rfl rfl ?_
        refine nl ?_
        refine then_n ?_
        first | refine cd rfl (fun hc3 => ?_) (fun hc3 => ?_) | refine cn rfl (fun hc3 => ?_) (fun hc3 => ?_)   -- test 3
        · refine sq ?_
          refine rg ?_
          refine asg (v := .bool _) rfl rfl ?_
          refine nl ?_
          refine then_n ?_
          refine rt ?_
          refine in_r ?_
          refine then_r ?_
          refine loop_r ?_
          refine in_r ?_
          refine then_r ?_
          refine fin_r ?_
          exact ⟨congrArg Value.bool (by unfold zAll; exact (decide_eq_false (fun h => by have := h i (by omega); omega)).symm), H.fr⟩
        · refine sk ?_
          refine in_n ?_
          refine then_n ?_
          refine rg ?_
          refine add rfl rfl (by first | exact w_i64 (by omega) | exact w_i64 (rng_i64 _) | rfl) rfl ?_
          refine mv (v := .int .i64 _) rfl rfl ?_
          refine nl ?_
          refine loop_n ?_
          exact ⟨i + 1, (by (try dsimp only); omega), ⟨by omega, zAll_next hz (by omega), H⟩, (fC (by first | rfl | exact congrArg (Value.int _) (by first | omega | assumption | (symm; assumption) | (simp; done) | (simp; omega)) | exact congrArg (fun n => Value.slice _ n _) (by first | omega | (simp; done) | (simp; omega))) (fN _)), (by repeat (first | exact Agree.setL rfl Agree.mask | exact Agree.self _ _ | refine Agree.upd rfl ?_ | refine Agree.setL rfl ?_ | refine Agree.mask2 rfl ?_))⟩
      · refine ex ?_
        refine then_e ?_
        refine loop_e ?_
        refine in_hit rfl ?_
        refine then_n ?_
        refine sq ?_
        refine rg ?_
        refine asg (v := .bool _) rfl rfl ?_
        refine nl ?_
        refine then_n ?_
        refine rt ?_
        refine fin_r ?_
        exact ⟨congrArg Value.bool (by unfold zAll; exact (decide_eq_true (fun j hj => hz j (by omega))).symm), H.fr⟩

set_option maxRecDepth 100000 in
set_option maxHeartbeats 1000000 in
theorem c_readProt (w : World) (q o c : Nat) (bs : List UInt8) (m : Int) (hR : RB w (some ⟨q, o, none⟩) 512 bs) (hc : 512 ≤ c) : Calls Try.prog 42 #[.slice (some ⟨q, o, none⟩) 512 c, .int .u32 m] w (Ret fun v w' => v = .bool (protB bs m) ∧ Fr [] w w') := by
  refine enter (fun ρ => ρ 4) Try.func42 rfl rfl rfl (res1 rfl) ?_
  have H := SH.nil w
  have hRl := hR.1
  have h446 := hR.at 446 (by decide)
  rw [Addr.add_lit] at h446
  have h450 := hR.at 450 (by decide)
  rw [Addr.add_lit] at h450
  refine sq ?_
  refine rg ?_
  refine asg (v := .bool _) rfl rfl ?_
  refine nl ?_
  refine then_n ?_
  refine sq ?_
  refine rg ?_
  refine mv (v := .slice _ _ _) rfl rfl ?_
  refine lnS rfl Try.underlying23 rfl ?_
  refine asg (v := .int .i64 _) rfl rfl ?_
  refine nl ?_
  refine then_n ?_
  refine sq ?_
  refine sq ?_
  refine rg ?_
  refine mv (v := .int .i64 _) rfl rfl ?_
  refine lss rfl rfl rfl ?_
  refine nl ?_
  refine then_n ?_
  first | refine cF rfl (by omega) ?_ | refine cbF rfl (by omega) ?_   -- test 1
  refine sk ?_
  refine then_n ?_
  refine sq ?_
  refine sq ?_
  refine dr (by kernel_rfl) ?_   -- region 4
  have H := H.drew
  refine hold (fun _ => True) [] ?_
  refine tk (i := 0) rfl (by kernel_rfl) rfl trivial (fun _ _ => r_mv (v := .slice _ _ _) rfl) ?_
  refine tk (i := 1) rfl (by kernel_rfl) rfl trivial (fun _ _ => r_mv (v := .int .i64 _) rfl) ?_
  refine tk (i := 2) rfl (by kernel_rfl) rfl trivial (fun _ _ => r_sub rfl rfl (by first | exact w_i64 (by omega) | exact w_i64 (rng_i64 _) | rfl)) ?_
  refine tk (i := 3) rfl (by kernel_rfl) rfl trivial (fun _ _ => r_sllN (o + 510) (2) (c - 510) rfl rfl Try.underlying23 sz5_1 (by omega) (by omega)) ?_
  refine unfree ?_
  refine fo (i := 4) (by kernel_rfl) rfl rfl ?_
  refine cl ca57 (c_getMs _) rfl ?_
  rintro _ w1 ⟨b1, rfl, hb1, ho1, F⟩
  replace H := H.new F hb1 ho1; clear F ho1
  refine nl ?_
  refine then_n ?_
  refine fo (i := 5) (by kernel_rfl) rfl rfl ?_
  refine cl ca50 (c_bytesEqual _ _ _ _ _ _ _ (pcs bs 510 2) [85, 170] (((hR.keep H.fr).drop (k := 510) (by decide)).take (k := 2) (by decide)) (RB.allL [85, 170] H rfl)) rfl ?_
  rintro _ w2 ⟨rfl, F⟩
  replace H := H.keep F; clear F
  refine nl ?_
  refine then_n ?_
  refine holdH H [] ?_
  refine tk (i := 6) rfl (by kernel_rfl) rfl H (fun w' H => r_unot rfl) ?_
  refine da (by kernel_rfl) ?_
  refine then_n ?_
  first | refine cd rfl (fun hc2 => ?_) (fun hc2 => ?_) | refine cn rfl (fun hc2 => ?_) (fun hc2 => ?_)   -- test 2
  · refine sq ?_
    refine rg ?_
    refine asg (v := .bool _) rfl rfl ?_
    refine nl ?_
    refine then_n ?_
    refine rt ?_
    refine then_r ?_
    refine fin_r ?_
    refine ⟨congrArg Value.bool ?_, H.fr⟩
    unfold protB
    have e : pcs bs 510 2 ≠ [85, 170] := by simpa using hc2
    rw [decide_eq_false e]; rfl
  · refine sk ?_
    refine then_n ?_
    refine sq ?_
    refine rg ?_
    refine mv (v := .slice _ _ _) rfl rfl ?_
    refine sllhN (o + 446) (64) (c - 446) rfl rfl rfl Try.underlying23 sz5_1 (by omega) (by omega) rfl ?_
    refine asg (v := .slice _ _ _) rfl rfl ?_
    refine nl ?_
    refine then_n ?_
    refine sq ?_
    refine sq ?_
    refine rg ?_
    refine asg (v := .int .i64 _) rfl rfl ?_
    refine nl ?_
    refine then_n ?_
    refine bk ?_
    refine lpM (α := Nat) [4, 7, 21, 22, 23, 24, 25, 26, 27, 28, 29, 30, 31, 32, 33] (fun i => [(7, .int .i64 (i : Int))]) (fun i w' => 1 ≤ i ∧ i ≤ 4 ∧ (∀ j, j + 1 < i → zAll (pcs bs (462 + 16 * j) 16) = true) ∧ SH w [] w' []) (fun i => 4 - i) 1 ?_ (fC (by first | rfl | exact congrArg (Value.int _) (by first | omega | assumption | (symm; assumption) | (simp; done) | (simp; omega)) | exact congrArg (fun n => Value.slice _ n _) (by first | omega | (simp; done) | (simp; omega))) (fN _)) ?_   -- loop 1
    · exact ⟨by omega, by omega, fun j h1 => by omega, H.sub (by repeat (first | exact List.Sublist.refl _ | exact List.nil_sublist _ | apply List.Sublist.cons_cons | apply List.Sublist.cons))⟩
    · rintro i ρx w3 ⟨hi1, hi, hz, H⟩
      refine sq ?_
      refine sq ?_
      refine rg ?_
      refine mv (v := .int .i64 _) rfl rfl ?_
      refine lss rfl rfl rfl ?_
      refine nl ?_
      refine then_n ?_
      first | refine cd rfl (fun hc3 => ?_) (fun hc3 => ?_) | refine cn rfl (fun hc3 => ?_) (fun hc3 => ?_)   -- test 3
      · refine sk ?_
        refine then_n ?_
        refine sq ?_
        refine bk ?_
        refine sq ?_
        refine rg ?_
        refine mv (v := .slice _ _ _) rfl rfl ?_
        refine mv (v := .int .i64 _) rfl rfl ?_
        refine mul rfl rfl (by first | exact w_i64 (by omega) | exact w_i64 (rng_i64 _) | rfl) rfl ?_
        refine mv (v := .int .i64 _) rfl rfl ?_
        refine add rfl rfl (by first | exact w_i64 (by omega) | exact w_i64 (rng_i64 _) | rfl) rfl ?_
        refine mul rfl rfl (by first | exact w_i64 (by omega) | exact w_i64 (rng_i64 _) | rfl) rfl ?_
        refine sllhN (o + (446 + 16 * i)) (16) (c - (446 + 16 * i)) rfl rfl rfl Try.underlying23 sz5_1 (by omega) (by omega) rfl ?_
        refine cl ca58 (c_zeroMatch _ (some ⟨q, o + (446 + 16 * i), none⟩) 16 _ (pcs bs (446 + 16 * i) 16) (((hR.keep H.fr).drop (k := 446 + 16 * i) (by omega)).take (k := 16) (by omega)) (by decide)) rfl ?_
        rintro _ w4 ⟨rfl, F⟩
        replace H := H.keep F; clear F
        refine unot rfl rfl ?_
        refine nl ?_
        refine then_n ?_
        first | refine cd rfl (fun hc4 => ?_) (fun hc4 => ?_) | refine cn rfl (fun hc4 => ?_) (fun hc4 => ?_)   -- test 4
        · refine sq ?_
          refine rg ?_
          refine asg (v := .bool _) rfl rfl ?_
          refine nl ?_
          refine then_n ?_
          refine rt ?_
          refine in_r ?_
          refine then_r ?_
          refine loop_r ?_
          refine in_r ?_
          refine then_r ?_
          refine fin_r ?_
          refine ⟨congrArg Value.bool ?_, H.fr⟩
          unfold protB
          rw [rec3_f ⟨by omega, by omega⟩ (by simpa using hc4)]; simp
        · refine sk ?_
          refine in_n ?_
          refine then_n ?_
          refine rg ?_
          refine mv (v := .int .i64 _) rfl rfl ?_
          refine add rfl rfl (by first | exact w_i64 (by omega) | exact w_i64 (rng_i64 _) | rfl) rfl ?_
          refine asg (v := .int .i64 _) rfl rfl ?_
          refine nl ?_
          refine loop_n ?_
          exact ⟨i + 1, (by (try dsimp only); omega), ⟨by omega, by omega, zRec_next hz (by simpa using hc4), H⟩, (fC (by first | rfl | exact congrArg (Value.int _) (by first | omega | assumption | (symm; assumption) | (simp; done) | (simp; omega)) | exact congrArg (fun n => Value.slice _ n _) (by first | omega | (simp; done) | (simp; omega))) (fN _)), (by repeat (first | exact Agree.setL rfl Agree.mask | exact Agree.self _ _ | refine Agree.upd rfl ?_ | refine Agree.setL rfl ?_ | refine Agree.mask2 rfl ?_))⟩
      · refine ex ?_
        refine then_e ?_
        refine loop_e ?_
        refine in_hit rfl ?_
        refine then_n ?_
        refine sq ?_
        refine sq ?_
        refine rg ?_
        refine mv (v := .slice _ _ _) rfl rfl ?_
        refine iaN (o + 446) rfl rfl Try.underlying23 sz5_1 (by omega) (by omega) rfl ?_
        first | (refine ldb H rfl sc5 (by omega) rfl ?_; intro hu1) | refine ld H rfl sc5 rfl rfl ?_ | refine lc rfl (by first | assumption | exact H.fr.cell (by assumption) (by simp)) sc5 rfl ?_
        refine neq rfl rfl rfl ?_
        refine nl ?_
        refine then_n ?_
        first | refine cd rfl (fun hc5 => ?_) (fun hc5 => ?_) | refine cn rfl (fun hc5 => ?_) (fun hc5 => ?_)   -- test 5
        · refine sq ?_
          refine rg ?_
          refine asg (v := .bool _) rfl rfl ?_
          refine nl ?_
          refine then_n ?_
          refine rt ?_
          refine then_r ?_
          refine fin_r ?_
          refine ⟨congrArg Value.bool ?_, H.fr⟩
          unfold protB
          rw [decide_eq_false (p := (bs.getD 446 0).toNat = 0) (by omega)]; simp
        · refine sk ?_
          refine then_n ?_
          refine sq ?_
          refine sq ?_
          refine rg ?_
          refine mv (v := .slice _ _ _) rfl rfl ?_
          refine iaN (o + 450) rfl rfl Try.underlying23 sz5_1 (by omega) (by omega) rfl ?_
          first | (refine ldb H rfl sc5 (by omega) rfl ?_; intro hu2) | refine ld H rfl sc5 rfl rfl ?_ | refine lc rfl (by first | assumption | exact H.fr.cell (by assumption) (by simp)) sc5 rfl ?_
          refine neq rfl rfl rfl ?_
          refine nl ?_
          refine then_n ?_
          first | refine cd rfl (fun hc6 => ?_) (fun hc6 => ?_) | refine cn rfl (fun hc6 => ?_) (fun hc6 => ?_)   -- test 6
          · refine sq ?_
            refine rg ?_
            refine asg (v := .bool _) rfl rfl ?_
            refine nl ?_
            refine then_n ?_
            refine rt ?_
            refine then_r ?_
            refine fin_r ?_
            refine ⟨congrArg Value.bool ?_, H.fr⟩
            unfold protB
            rw [decide_eq_false (p := (bs.getD 450 0).toNat = 238) (by omega)]; simp
          · refine sk ?_
            refine then_n ?_
            refine sq ?_
            refine sq ?_
            refine dr (by kernel_rfl) ?_   -- region 16
            have H := H.drew
            refine hold (fun _ => True) [] ?_
            refine tk (i := 1) rfl (by kernel_rfl) rfl trivial (fun _ _ => r_mv (v := .slice _ _ _) rfl) ?_
            refine tk (i := 2) rfl (by kernel_rfl) rfl trivial (fun _ _ => r_sllhN (o + 454) (4) (c - 454) rfl rfl rfl Try.underlying23 sz5_1 (by omega) (by omega)) ?_
            refine unfree ?_
            refine holdH H [] ?_
            refine tk (i := 0) rfl (by kernel_rfl) rfl H (fun w' H => r_lw (vs := []) rfl ag114_0 rfl (by simp)) ?_
            refine fk (i := 3) (by kernel_rfl) rfl rfl rfl ?_
            refine cl ca46 (c_uint32 _ _ _ _ (pcs bs 454 4) (((hR.keep H.fr).drop (k := 454) (by decide)).take (k := 4) (by decide)) rfl) rfl ?_
            rintro _ w5 ⟨rfl, F⟩
            replace H := H.keep F; clear F
            refine nl ?_
            refine then_n ?_
            refine ⟨H, ?_⟩
            refine tk (i := 4) rfl (by kernel_rfl) rfl H (fun w' H => r_neq rfl rfl) ?_
            refine da (by kernel_rfl) ?_
            refine then_n ?_
            first | refine cd rfl (fun hc7 => ?_) (fun hc7 => ?_) | refine cn rfl (fun hc7 => ?_) (fun hc7 => ?_)   -- test 7
            · refine sq ?_
              refine rg ?_
              refine asg (v := .bool _) rfl rfl ?_
              refine nl ?_
              refine then_n ?_
              refine rt ?_
              refine then_r ?_
              refine fin_r ?_
              refine ⟨congrArg Value.bool ?_, H.fr⟩
              unfold protB
              rw [decide_eq_false (p := fld bs 454 4 = 1) (by assumption)]; simp
            · refine sk ?_
              refine then_n ?_
              refine sq ?_
              refine sq ?_
              refine dr (by kernel_rfl) ?_   -- region 18
              have H := H.drew
              refine hold (fun _ => True) [] ?_
              refine tk (i := 1) rfl (by kernel_rfl) rfl trivial (fun _ _ => r_mv (v := .slice _ _ _) rfl) ?_
              refine tk (i := 2) rfl (by kernel_rfl) rfl trivial (fun _ _ => r_sllhN (o + 458) (4) (c - 458) rfl rfl rfl Try.underlying23 sz5_1 (by omega) (by omega)) ?_
              refine tk (i := 4) rfl (by kernel_rfl) rfl trivial (fun _ _ => r_mv (v := .int .u32 _) rfl) ?_
              refine unfree ?_
              refine holdH H [] ?_
              refine tk (i := 0) rfl (by kernel_rfl) rfl H (fun w' H => r_lw (vs := []) rfl ag114_0 rfl (by simp)) ?_
              refine fk (i := 3) (by kernel_rfl) rfl rfl rfl ?_
              refine cl ca46 (c_uint32 _ _ _ _ (pcs bs 458 4) (((hR.keep H.fr).drop (k := 458) (by decide)).take (k := 4) (by decide)) rfl) rfl ?_
              rintro _ w6 ⟨rfl, F⟩
              replace H := H.keep F; clear F
              refine nl ?_
              refine then_n ?_
              refine ⟨H, ?_⟩
              refine tk (i := 5) rfl (by kernel_rfl) rfl H (fun w' H => r_neq rfl rfl) ?_
              refine da (by kernel_rfl) ?_
              refine then_n ?_
              first | refine cd rfl (fun hc8 => ?_) (fun hc8 => ?_) | refine cn rfl (fun hc8 => ?_) (fun hc8 => ?_)   -- test 8
              · refine sq ?_
                refine rg ?_
                refine asg (v := .bool _) rfl rfl ?_
                refine nl ?_
                refine then_n ?_
                refine rt ?_
                refine then_r ?_
                refine fin_r ?_
                refine ⟨congrArg Value.bool ?_, H.fr⟩
                unfold protB
                rw [decide_eq_false (p := fld bs 458 4 = m) (by assumption)]; simp
              · refine sk ?_
                refine then_n ?_
                refine sq ?_
                refine rg ?_
                refine asg (v := .bool _) rfl rfl ?_
                refine nl ?_
                refine then_n ?_
                refine rt ?_
                refine fin_r ?_
                refine ⟨congrArg Value.bool ?_, H.fr⟩
                unfold protB
                obtain rfl : i = 4 := by omega
                have e : pcs bs 510 2 = [85, 170] := by simpa using hc2
                have e1 : fld bs 454 4 = 1 := Classical.not_not.1 (by assumption)
                have e2 : fld bs 458 4 = m := Classical.not_not.1 (by assumption)
                rw [rec3_t hz, decide_eq_true e, decide_eq_true (p := (bs.getD 446 0).toNat = 0) (by omega), decide_eq_true (p := (bs.getD 450 0).toNat = 238) (by omega), decide_eq_true e1, decide_eq_true e2]; rfl

end Go.Proofs.Ythcaejaaalkglaa.X
/- Walks of functions, printed by a program of this claim. -/
namespace Go.Proofs.Ythcaejaaalkglaa.X
set_option linter.unusedVariables false
set_option linter.unusedSimpArgs false
open Go Go.RowKit

namespace P14
theorem ca41 : callable Try.prog 41 = true := by kernel_rfl
theorem ca42 : callable Try.prog 42 = true := by kernel_rfl
theorem fo75_1 : fieldOff Try.prog 75 1 = some 1 := by kernel_rfl
theorem fo75_11 : fieldOff Try.prog 75 11 = some 11 := by kernel_rfl
theorem fo75_14 : fieldOff Try.prog 75 14 = some 14 := by kernel_rfl
theorem fo75_2 : fieldOff Try.prog 75 2 = some 2 := by kernel_rfl
theorem fo75_4 : fieldOff Try.prog 75 4 = some 4 := by kernel_rfl
theorem fo75_6 : fieldOff Try.prog 75 6 = some 6 := by kernel_rfl
theorem fo75_7 : fieldOff Try.prog 75 7 = some 7 := by kernel_rfl
theorem fo75_8 : fieldOff Try.prog 75 8 = some 8 := by kernel_rfl
theorem sc3 : scalarB Try.prog 3 = true := by kernel_rfl
theorem sc30 : scalarB Try.prog 30 = true := by kernel_rfl
theorem sc35 : scalarB Try.prog 35 = true := by kernel_rfl
theorem sc4 : scalarB Try.prog 4 = true := by kernel_rfl
theorem sz5_1 : sizeB Try.prog 5 1 = true := by kernel_rfl

end P14
open P14

set_option maxRecDepth 100000 in
set_option maxHeartbeats 1000000 in
theorem c_tabFrom (w : World) (q n c : Nat) (T : TypeId) (bs : List UInt8) (hb : w.heap[q]? = some (.cells (Bs bs).toArray T (0, 0))) (hn : 1024 ≤ n) (hc : n ≤ c) (ho : n ≤ bs.length) (hbl : bs.length ≤ 1000000000) : Calls Try.prog 39 #[.slice (some ⟨q, 0, none⟩) n c, .int .i64 512, .int .i64 512] w (Ret fun v w' => Fr [q] w w' ∧ w'.heap[q]? = some (.cells (Bs (pAt bs 528 [0, 0, 0, 0])).toArray T (0, 0)) ∧ ∃ A e, v = .tuple #[.pointer A, e] ∧ Ifc e ∧ isIf e = !(hdrGood bs 512) ∧ (hdrGood bs 512 = true → ∃ p, A = some ⟨p, 0, none⟩ ∧ w.heap.size ≤ p ∧ w'.heap[p]? = some (.cells (tbC none 0 0 512 512 (gT (pcs bs 568 16)) (protB (pcs bs 0 512) (fld bs 544 8 % 4294967296)) false (fld bs 592 4) (fld bs 596 4) (fld bs 584 8) (fld bs 600 4) (fld bs 536 8) (fld bs 544 8) (fld bs 552 8) (fld bs 560 8) true).toArray 75 (0, 0)))) := by
  refine enter (fun ρ => .tuple #[ρ 6, ρ 7]) Try.func39 rfl rfl rfl (res2 rfl) ?_
  have H := SH.rw1 hb
  refine sq ?_
  refine rg ?_
  refine asg (v := .pointer _) rfl rfl ?_
  refine asg (v := .nilIface) rfl rfl ?_
  refine nl ?_
  refine then_n ?_
  refine sq ?_
  refine sq ?_
  refine rg ?_
  refine mv (v := .slice _ _ _) rfl rfl ?_
  refine lnS rfl Try.underlying23 rfl ?_
  refine mv (v := .int .i64 _) rfl rfl ?_
  refine mul rfl rfl (by first | exact w_i64 (by omega) | exact w_i64 (rng_i64 _) | rfl) rfl ?_
  refine lss rfl rfl rfl ?_
  refine nl ?_
  refine then_n ?_
  first | refine cF rfl (by omega) ?_ | refine cbF rfl (by omega) ?_   -- test 1
  refine sk ?_
  refine then_n ?_
  refine sq ?_
  refine rg ?_
  refine mv (v := .slice _ _ _) rfl rfl ?_
  refine mv (v := .int .i64 _) rfl rfl ?_
  refine sllN (512) (n - 512) (c - 512) rfl rfl Try.underlying23 sz5_1 (by omega) (by omega) rfl ?_
  refine asg (v := .slice _ _ _) rfl rfl ?_
  refine nl ?_
  refine then_n ?_
  refine sq ?_
  refine rg ?_
  refine mv (v := .slice _ _ _) rfl rfl ?_
  refine cl ca41 (c_readHdr _ q 512 (n - 512) (c - 512) _ bs (H.look (b := q)) (by omega) (by omega) (by omega) (by omega)) rfl ?_
  rintro _ w1 ⟨F, hnew, hres⟩
  obtain ⟨A9, e9, rfl, hie, hif, hok⟩ := two_res hres
  obtain ⟨H9, hlt⟩ := H.put2 F hnew
  clear H hres F hnew; have H := H9; clear H9
  refine mv (v := .tuple _) rfl rfl ?_
  refine xt rfl rfl rfl ?_
  refine xt rfl rfl rfl ?_
  refine asg (v := .pointer _) rfl rfl ?_
  first | refine asg (v := .nilIface) rfl rfl ?_ | refine asg (v := .iface _ _) rfl rfl ?_ | refine asg rfl rfl ?_
  refine nl ?_
  refine then_n ?_
  refine sq ?_
  refine sq ?_
  refine rg ?_
  first | refine mv (v := .nilIface) rfl rfl ?_ | refine mv (v := .iface _ _) rfl rfl ?_ | refine mv rfl rfl ?_
  first | refine neqI1 rfl Try.underlying70 rfl ?_ | refine neqI0 rfl Try.underlying70 rfl ?_ | refine neqIG rfl Try.underlying70 (by assumption) rfl ?_
  refine nl ?_
  refine then_n ?_
  first | refine cd rfl (fun hc2 => ?_) (fun hc2 => ?_) | refine cn rfl (fun hc2 => ?_) (fun hc2 => ?_)   -- test 2
  · have hgd : hdrGood bs 512 = false := by have h9 := hif.symm.trans hc2; simpa using h9
    refine sq ?_
    refine rg ?_
    first | refine mv (v := .nilIface) rfl rfl ?_ | refine mv (v := .iface _ _) rfl rfl ?_ | refine mv rfl rfl ?_
    refine asg (v := .pointer _) rfl rfl ?_
    first | refine asg (v := .nilIface) rfl rfl ?_ | refine asg (v := .iface _ _) rfl rfl ?_ | refine asg rfl rfl ?_
    refine nl ?_
    refine then_n ?_
    refine rt ?_
    refine then_r ?_
    refine fin_r ?_
    exact ⟨H.fr, H.look, _, _, rfl, hie, hif, fun h => by rw [hgd] at h; cases h⟩
  · have hgd : hdrGood bs 512 = true := by have h9 := hif.symm.trans hc2; simpa using h9
    obtain ⟨p, rfl, hp1, hp2⟩ := hok hgd
    replace H := H.add hlt hp1 hp2
    refine sk ?_
    refine then_n ?_
    refine sq ?_
    refine dr (by kernel_rfl) ?_   -- region 7
    have H := H.drew
    refine hold (fun _ => True) [] ?_
    refine tk (i := 0) rfl (by kernel_rfl) rfl trivial (fun _ _ => r_mv (v := .pointer _) rfl) ?_
    refine tk (i := 1) rfl (by kernel_rfl) rfl trivial (fun _ _ => r_mv (v := .slice _ _ _) rfl) ?_
    refine tk (i := 2) rfl (by kernel_rfl) rfl trivial (fun _ _ => r_mv (v := .int .i64 _) rfl) ?_
    refine tk (i := 3) rfl (by kernel_rfl) rfl trivial (fun _ _ => r_slhN (512) rfl rfl Try.underlying23 sz5_1 (by omega) (by omega)) ?_
    refine tk (i := 4) rfl (by kernel_rfl) rfl trivial (fun _ _ => r_mv (v := .pointer _) rfl) ?_
    first | refine tk (i := 5) rfl (by kernel_rfl) rfl trivial (fun _ _ => r_nc rfl) ?_ | refine tk (i := 5) rfl (by kernel_rfl) rfl trivial (fun _ _ => r_nci rfl) ?_
    refine tk (i := 6) rfl (by kernel_rfl) rfl trivial (fun _ _ => r_fa rfl fo75_11) ?_
    refine unfree ?_
    refine holdH H [12] ?_
    first | refine tk (i := 7) rfl (by kernel_rfl) rfl H (fun w' H => r_ld H rfl sc30 rfl) ?_ | refine tk (i := 7) rfl (by kernel_rfl) rfl H (fun w' H => r_lc rfl (by first | assumption | exact H.fr.cell (by assumption) (by simp)) sc30) ?_ | refine tk (i := 7) rfl (by kernel_rfl) rfl H (fun w' H => r_ld H rfl sc30 (by assumption)) ?_
    refine tk (i := 8) rfl (by kernel_rfl) rfl H (fun w' H => r_cvi (c := fld bs 544 8 % 4294967296) rfl rfl Try.underlying35 (m_u32 _)) ?_
    refine fk (i := 9) (by kernel_rfl) rfl rfl rfl ?_
    refine cl ca42 (c_readProt _ q 0 c (pcs bs 0 512) (fld bs 544 8 % 4294967296) (by have e := RB.of (b := q) (o := 0) (n := 512) H (by rw [zero_len (o := 512) (by omega)]; omega); rw [zero_lt (o := 512) (by omega) (by omega)] at e; exact e) (by omega)) rfl ?_
    rintro _ w2 ⟨rfl, F⟩
    replace H := H.keep F; clear F
    refine nl ?_
    refine then_n ?_
    refine ⟨H, ?_⟩
    refine fk (i := 10) (by kernel_rfl) rfl rfl rfl ?_
    first | refine nc rfl rfl ?_ | refine nci rfl rfl ?_
    refine nl ?_
    refine then_n ?_
    refine ⟨H, ?_⟩
    refine tk (i := 11) rfl (by kernel_rfl) rfl H (fun w' H => r_fa rfl fo75_4) ?_
    refine fb (i := 12) (by kernel_rfl) rfl rfl rfl ?_
    refine st (v := .bool _) H rfl rfl sc4 rfl (by first | decide | (simp only [List.length_set, List.length_cons, List.length_nil, List.length_replicate, List.length_append, Bs_length]; omega) | omega) (by omega) ?_
    clear H; intro w3 H _
    refine nl ?_
    refine then_n ?_
    refine dn (by kernel_rfl) ?_
    refine then_n ?_
    refine sq ?_
    refine rg ?_
    refine mv (v := .pointer _) rfl rfl ?_
    refine mv (v := .int .i64 _) rfl rfl ?_
    first | refine nc rfl rfl ?_ | refine nci rfl rfl ?_
    refine fa rfl fo75_1 rfl ?_
    refine st (v := .int .i64 _) H rfl rfl sc3 rfl (by first | decide | (simp only [List.length_set, List.length_cons, List.length_nil, List.length_replicate, List.length_append, Bs_length]; omega) | omega) (by omega) ?_
    clear H; intro w4 H _
    refine nl ?_
    refine then_n ?_
    refine sq ?_
    refine rg ?_
    refine mv (v := .pointer _) rfl rfl ?_
    refine mv (v := .int .i64 _) rfl rfl ?_
    first | refine nc rfl rfl ?_ | refine nci rfl rfl ?_
    refine fa rfl fo75_2 rfl ?_
    refine st (v := .int .i64 _) H rfl rfl sc3 rfl (by first | decide | (simp only [List.length_set, List.length_cons, List.length_nil, List.length_replicate, List.length_append, Bs_length]; omega) | omega) (by omega) ?_
    clear H; intro w5 H _
    refine nl ?_
    refine then_n ?_
    refine sq ?_
    refine rg ?_
    refine mv (v := .pointer _) rfl rfl ?_
    first | refine nc rfl rfl ?_ | refine nci rfl rfl ?_
    refine fa rfl fo75_14 rfl ?_
    refine st (v := .bool _) H rfl rfl sc4 rfl (by first | decide | (simp only [List.length_set, List.length_cons, List.length_nil, List.length_replicate, List.length_append, Bs_length]; omega) | omega) (by omega) ?_
    clear H; intro w6 H _
    refine nl ?_
    refine then_n ?_
    refine sq ?_
    refine rg ?_
    refine mv (v := .pointer _) rfl rfl ?_
    refine asg (v := .pointer _) rfl rfl ?_
    refine asg (v := .nilIface) rfl rfl ?_
    refine nl ?_
    refine then_n ?_
    refine rt ?_
    refine fin_r ?_
    replace H := sh_cells0 (cs' := tbC none 0 0 512 512 (gT (pcs bs 568 16)) (protB (pcs bs 0 512) (fld bs 544 8 % 4294967296)) false (fld bs 592 4) (fld bs 596 4) (fld bs 584 8) (fld bs 600 4) (fld bs 536 8) (fld bs 544 8) (fld bs 552 8) (fld bs 560 8) true) H rfl
    exact ⟨H.fr, H.look, _, _, rfl, .inl rfl, by rw [hgd]; rfl, fun _ => ⟨_, rfl, H.ge1 rfl (y := ⟨q, _, true⟩) (by repeat (first | exact .head _ | apply List.Mem.tail)) rfl, H.look⟩⟩

set_option maxRecDepth 100000 in
set_option maxHeartbeats 1000000 in
theorem c_calcLoc (w : World) (p : Nat) (f s k e : Int) (h1 : w.cell? ⟨p, 1, none⟩ = some (.int .i64 s)) (h6 : w.cell? ⟨p, 6, none⟩ = some (.int .i64 k)) (h7 : w.cell? ⟨p, 7, none⟩ = some (.int .u32 e)) (h8 : w.cell? ⟨p, 8, none⟩ = some (.int .u64 f)) (hf : 0 ≤ f ∧ f ≤ 1000000000) (he : 0 ≤ e ∧ e ≤ 4294967295) (fs ke : Int) (hfs : f * s = fs) (hke : k * e = ke) (hfs2 : 0 ≤ fs ∧ fs ≤ 1000000000000) (hke2 : 0 ≤ ke ∧ ke ≤ 1000000000000) : Calls Try.prog 43 #[.pointer (some ⟨p, 0, none⟩)] w (Ret fun v w' => v = .tuple #[.int .i64 fs, .int .i64 ke] ∧ Fr [] w w') := by
  refine enter (fun ρ => .tuple #[ρ 2, ρ 3]) Try.func43 rfl rfl rfl (res2 rfl) ?_
  have H := SH.nil w
  refine sq ?_
  refine rg ?_
  refine asg (v := .int .i64 _) rfl rfl ?_
  refine asg (v := .int .i64 _) rfl rfl ?_
  refine nl ?_
  refine then_n ?_
  refine sq ?_
  refine dr (by kernel_rfl) ?_   -- region 1
  have H := H.drew
  refine hold (fun _ => True) [] ?_
  refine tk (i := 0) rfl (by kernel_rfl) rfl trivial (fun _ _ => r_mv (v := .pointer _) rfl) ?_
  first | refine tk (i := 1) rfl (by kernel_rfl) rfl trivial (fun _ _ => r_nc rfl) ?_ | refine tk (i := 1) rfl (by kernel_rfl) rfl trivial (fun _ _ => r_nci rfl) ?_
  refine tk (i := 2) rfl (by kernel_rfl) rfl trivial (fun _ _ => r_fa rfl fo75_8) ?_
  refine tk (i := 5) rfl (by kernel_rfl) rfl trivial (fun _ _ => r_mv (v := .pointer _) rfl) ?_
  first | refine tk (i := 6) rfl (by kernel_rfl) rfl trivial (fun _ _ => r_nc rfl) ?_ | refine tk (i := 6) rfl (by kernel_rfl) rfl trivial (fun _ _ => r_nci rfl) ?_
  refine tk (i := 7) rfl (by kernel_rfl) rfl trivial (fun _ _ => r_fa rfl fo75_1) ?_
  refine unfree ?_
  refine holdH H [] ?_
  first | refine tk (i := 3) rfl (by kernel_rfl) rfl H (fun w' H => r_ld H rfl sc30 rfl) ?_ | refine tk (i := 3) rfl (by kernel_rfl) rfl H (fun w' H => r_lc rfl (by first | assumption | exact H.fr.cell (by assumption) (by simp)) sc30) ?_ | refine tk (i := 3) rfl (by kernel_rfl) rfl H (fun w' H => r_ld H rfl sc30 (by assumption)) ?_
  refine tk (i := 4) rfl (by kernel_rfl) rfl H (fun w' H => r_cvi rfl rfl Try.underlying3 (by first | exact w_i64 (by omega) | exact w_i64 (rng_i64 _) | rfl)) ?_
  first | refine tk (i := 8) rfl (by kernel_rfl) rfl H (fun w' H => r_ld H rfl sc3 rfl) ?_ | refine tk (i := 8) rfl (by kernel_rfl) rfl H (fun w' H => r_lc rfl (by first | assumption | exact H.fr.cell (by assumption) (by simp)) sc3) ?_ | refine tk (i := 8) rfl (by kernel_rfl) rfl H (fun w' H => r_ld H rfl sc3 (by assumption)) ?_
  refine tk (i := 9) rfl (by kernel_rfl) rfl H (fun w' H => r_mul rfl rfl (by first | exact w_i64 (by omega) | exact w_i64 (rng_i64 _) | rfl)) ?_
  refine tk (i := 10) rfl (by kernel_rfl) rfl H (fun w' H => r_asg (v := .int .i64 _) rfl) ?_
  refine da (by kernel_rfl) ?_
  refine then_n ?_
  refine sq ?_
  refine dr (by kernel_rfl) ?_   -- region 2
  have H := H.drew
  refine hold (fun _ => True) [] ?_
  refine tk (i := 0) rfl (by kernel_rfl) rfl trivial (fun _ _ => r_mv (v := .pointer _) rfl) ?_
  first | refine tk (i := 1) rfl (by kernel_rfl) rfl trivial (fun _ _ => r_nc rfl) ?_ | refine tk (i := 1) rfl (by kernel_rfl) rfl trivial (fun _ _ => r_nci rfl) ?_
  refine tk (i := 2) rfl (by kernel_rfl) rfl trivial (fun _ _ => r_fa rfl fo75_6) ?_
  refine tk (i := 4) rfl (by kernel_rfl) rfl trivial (fun _ _ => r_mv (v := .pointer _) rfl) ?_
  first | refine tk (i := 5) rfl (by kernel_rfl) rfl trivial (fun _ _ => r_nc rfl) ?_ | refine tk (i := 5) rfl (by kernel_rfl) rfl trivial (fun _ _ => r_nci rfl) ?_
  refine tk (i := 6) rfl (by kernel_rfl) rfl trivial (fun _ _ => r_fa rfl fo75_7) ?_
  refine unfree ?_
  refine holdH H [] ?_
  first | refine tk (i := 3) rfl (by kernel_rfl) rfl H (fun w' H => r_ld H rfl sc3 rfl) ?_ | refine tk (i := 3) rfl (by kernel_rfl) rfl H (fun w' H => r_lc rfl (by first | assumption | exact H.fr.cell (by assumption) (by simp)) sc3) ?_ | refine tk (i := 3) rfl (by kernel_rfl) rfl H (fun w' H => r_ld H rfl sc3 (by assumption)) ?_
  first | refine tk (i := 7) rfl (by kernel_rfl) rfl H (fun w' H => r_ld H rfl sc35 rfl) ?_ | refine tk (i := 7) rfl (by kernel_rfl) rfl H (fun w' H => r_lc rfl (by first | assumption | exact H.fr.cell (by assumption) (by simp)) sc35) ?_ | refine tk (i := 7) rfl (by kernel_rfl) rfl H (fun w' H => r_ld H rfl sc35 (by assumption)) ?_
  refine tk (i := 8) rfl (by kernel_rfl) rfl H (fun w' H => r_cvi rfl rfl Try.underlying3 (by first | exact w_i64 (by omega) | exact w_i64 (rng_i64 _) | rfl)) ?_
  refine tk (i := 9) rfl (by kernel_rfl) rfl H (fun w' H => r_mul rfl rfl (by first | exact w_i64 (by omega) | exact w_i64 (rng_i64 _) | rfl)) ?_
  refine tk (i := 10) rfl (by kernel_rfl) rfl H (fun w' H => r_asg (v := .int .i64 _) rfl) ?_
  refine da (by kernel_rfl) ?_
  refine then_n ?_
  refine rt ?_
  refine fin_r ?_
  subst hfs hke; exact ⟨rfl, H.fr⟩

end Go.Proofs.Ythcaejaaalkglaa.X
/- Units of sixteen bits as runes, and runes as bytes. -/
namespace Go.Proofs.Ythcaejaaalkglaa.X
set_option linter.unusedVariables false
open Go Go.RowKit
/-- What utf16.Decode gives. -/
def dec16 : List Int → List Int
  | [] => []
  | u :: r => if u < 55296 ∨ 57344 ≤ u then u :: dec16 r else
    match r with
    | [] => [65533]
    | v :: r' => if u < 56320 ∧ 56320 ≤ v ∧ v < 57344 then ((u - 55296) * 1024 + (v - 56320) + 65536) :: dec16 r' else 65533 :: dec16 (v :: r')
theorem drop_at {us : List Int} {i : Nat} {u : Int} (h : us[i]? = some u) : us.drop i = u :: us.drop (i + 1) := by
  obtain ⟨hi, e⟩ := List.getElem?_eq_some_iff.1 h
  rw [List.drop_eq_getElem_cons hi, e]
theorem dec_A {us : List Int} {i : Nat} {u : Int} (h : us[i]? = some u) (hu : u < 55296 ∨ 57344 ≤ u) : dec16 (us.drop i) = u :: dec16 (us.drop (i + 1)) := by
  rw [drop_at h, dec16.eq_def]; simp only [if_pos hu]
theorem dec_B {us : List Int} {i : Nat} {u v : Int} (h : us[i]? = some u) (h2 : us[i + 1]? = some v) (hu : ¬ (u < 55296 ∨ 57344 ≤ u)) (hv : u < 56320 ∧ 56320 ≤ v ∧ v < 57344) : dec16 (us.drop i) = ((u - 55296) * 1024 + (v - 56320) + 65536) :: dec16 (us.drop (i + 2)) := by
  rw [drop_at h, drop_at h2, dec16.eq_def]; simp only [if_neg hu, if_pos hv]
theorem dec_C {us : List Int} {i : Nat} {u : Int} (h : us[i]? = some u) (hu : ¬ (u < 55296 ∨ 57344 ≤ u)) (hv : ∀ v, us[i + 1]? = some v → ¬ (u < 56320 ∧ 56320 ≤ v ∧ v < 57344)) : dec16 (us.drop i) = 65533 :: dec16 (us.drop (i + 1)) := by
  rw [drop_at h, dec16.eq_def]; simp only [if_neg hu]
  cases hd : us.drop (i + 1) with
  | nil => simp [dec16]
  | cons v r =>
    have h2 : us[i + 1]? = some v := by
      have := congrArg List.head? hd
      simpa using this
    simp only [if_neg (hv v h2)]
theorem dec16_len : ∀ (n : Nat) (us : List Int), us.length ≤ n → (dec16 us).length ≤ us.length
  | 0, us, h => by
    have : us = [] := List.eq_nil_of_length_eq_zero (by omega)
    subst this; simp [dec16]
  | n + 1, [], h => by simp [dec16]
  | n + 1, u :: r, h => by
    rw [dec16.eq_def]
    simp only
    split
    · have := dec16_len n r (by simpa using h); simp; omega
    · cases r with
      | nil => simp
      | cons v r' =>
        simp only
        split
        · have := dec16_len n r' (by simp at h; omega); simp; omega
        · have := dec16_len n (v :: r') (by simpa using h); simp at this ⊢; omega
/-- Units that came of runes become the runes again. -/
theorem dec_u16 {c : Nat} (hv : c < 55296 ∨ (57343 < c ∧ c ≤ 1114111)) (us : List Int) : dec16 (u16 c ++ us) = (c : Int) :: dec16 us := by
  unfold u16
  split
  · rename_i h
    rw [List.cons_append, dec16.eq_def]
    simp only
    rw [if_neg (by omega)]
    simp only [List.cons_append, List.nil_append]
    rw [if_pos (by omega)]
    congr 1; omega
  · rename_i h
    rw [List.cons_append, List.nil_append, dec16.eq_def]
    simp only
    rw [if_pos (by omega)]
/-- Runes as bytes. -/
def encL (ns : List Int) : List UInt8 := ns.flatMap fun n => (Utf8.encode n).data.toList
theorem foldl_enc : ∀ (ns : List Int) (r : ByteArray), (ns.foldl (fun r n => r ++ Utf8.encode n) r).data.toList = r.data.toList ++ encL ns
  | [], r => by simp [encL]
  | n :: ns, r => by
    rw [List.foldl_cons, foldl_enc ns]
    simp [encL, ByteArray.data_append]
theorem rBytes_eq (ns : List Int) : rBytes ns ns.length = encL ns := by
  unfold rBytes runesBytes
  rw [List.take_length, foldl_enc]
  rfl
theorem encL_le (ns : List Int) : (encL ns).length ≤ 4 * ns.length := by rw [← rBytes_eq]; exact rBytes_le _ _
theorem or1024 {x y : Int} (hx : 0 ≤ x ∧ x < 1024) (hy : 0 ≤ y ∧ y < 1024) : bits .or .i32 (x * 1024) y = x * 1024 + y := by
  obtain ⟨a, rfl⟩ := Int.eq_ofNat_of_zero_le hx.1
  obtain ⟨b, rfl⟩ := Int.eq_ofNat_of_zero_le hy.1
  have e : bits .or .i32 ((a : Int) * 1024) (b : Int) = IntKind.i32.wrap ((BitVec.ofInt 32 ((a : Int) * 1024) ||| BitVec.ofInt 32 (b : Int)).toNat : Int) := rfl
  have h1 : (BitVec.ofInt 32 ((a : Int) * 1024)).toNat = a * 2 ^ 10 := by rw [BitVec.toNat_ofInt]; omega
  have h2 : (BitVec.ofInt 32 (b : Int)).toNat = b := by rw [BitVec.toNat_ofInt]; omega
  rw [e, BitVec.toNat_or, h1, h2, Nat.or_comm, or_shift (by omega), w_i32 (by omega)]
  omega
/-- The units of an entry's name, up to the first zero. -/
def unE (e : List UInt8) : List Int := (List.range 36).map fun j => fld e (56 + 2 * j) 2
def nmU (e : List UInt8) : List Int := (unE e).takeWhile fun u => decide (u ≠ 0)
def nmB (e : List UInt8) : List UInt8 := encL (dec16 (nmU e))
theorem unE_len (e : List UInt8) : (unE e).length = 36 := by simp [unE]
theorem unE_get {e : List UInt8} {j : Nat} (h : j < 36) : (unE e)[j]? = some (fld e (56 + 2 * j) 2) := by
  unfold unE; rw [List.getElem?_map, List.getElem?_range h]; rfl
theorem tw_self : ∀ {us : List Int}, (∀ u ∈ us, u ≠ 0) → us.takeWhile (fun u => decide (u ≠ 0)) = us
  | [], _ => rfl
  | u :: r, hz => by rw [List.takeWhile_cons, if_pos (decide_eq_true (hz u (by simp))), tw_self (us := r) fun v hv => hz v (by simp [hv])]
theorem tw_all {us : List Int} {j : Nat} (hz : ∀ u ∈ us.take j, u ≠ 0) (h : us.length ≤ j) : us.takeWhile (fun u => decide (u ≠ 0)) = us.take j := by
  rw [List.take_of_length_le h] at hz ⊢
  exact tw_self hz
theorem tw_at : ∀ {us : List Int} {j : Nat}, (∀ u ∈ us.take j, u ≠ 0) → us[j]? = some 0 → us.takeWhile (fun u => decide (u ≠ 0)) = us.take j
  | [], j, hz, h => by simp at h
  | u :: r, 0, hz, h => by simp at h; subst h; simp
  | u :: r, j + 1, hz, h => by
    have h1 : u ≠ 0 := hz u (by simp)
    rw [List.takeWhile_cons, if_pos (decide_eq_true h1), List.take_succ_cons, tw_at (us := r) (j := j) (fun v hv => hz v (by simp [hv])) (by simpa using h)]
theorem nmU_full {e : List UInt8} {j : Nat} (hz : ∀ u ∈ (unE e).take j, u ≠ 0) (h : 36 ≤ j) : nmU e = (unE e).take j := tw_all hz (by rw [unE_len]; exact h)
theorem nmU_at {e : List UInt8} {j : Nat} (hz : ∀ u ∈ (unE e).take j, u ≠ 0) (hj : j < 36) (h : fld e (56 + 2 * j) 2 = 0) : nmU e = (unE e).take j := tw_at hz (by rw [unE_get hj, h])
theorem nz_next {e : List UInt8} {j : Nat} (hz : ∀ u ∈ (unE e).take j, u ≠ 0) (hj : j < 36) (h : fld e (56 + 2 * j) 2 ≠ 0) : ∀ u ∈ (unE e).take (j + 1), u ≠ 0 := by
  rw [take_succ_get (unE_get hj)]
  intro u hu
  rcases List.mem_append.1 hu with hu | hu
  · exact hz u hu
  · simp at hu; subst hu; exact h
theorem unE_succ {e : List UInt8} {j : Nat} (hj : j < 36) : (unE e).take (j + 1) = (unE e).take j ++ [fld e (56 + 2 * j) 2] := take_succ_get (unE_get hj)
theorem take_unE_len {e : List UInt8} {j : Nat} (h : j ≤ 36) : ((unE e).take j).length = j := by rw [List.length_take, unE_len]; omega
theorem nmU_len (e : List UInt8) : (nmU e).length ≤ 36 := by
  have := (List.takeWhile_prefix (l := unE e) (fun u => decide (u ≠ 0))).length_le
  rw [unE_len] at this
  exact this
theorem fld_rng2 {ds : List UInt8} {o : Nat} : 0 ≤ fld ds o 2 ∧ fld ds o 2 ≤ 65535 := by
  have := leV_rng (pcs ds o 2)
  have hl : (pcs ds o 2).length ≤ 2 := by simp [pcs]; omega
  have h2 : ((256 ^ (pcs ds o 2).length : Nat) : Int) ≤ ((256 ^ 2 : Nat) : Int) := Int.ofNat_le.2 (Nat.pow_le_pow_right (by decide) hl)
  rw [Int.natCast_pow, Int.natCast_pow, show ((256 : Nat) : Int) = 256 from rfl, show (256 : Int) ^ 2 = 65536 by decide] at h2
  unfold fld; omega
theorem nmU_rng {e : List UInt8} : ∀ u ∈ nmU e, 0 ≤ u ∧ u ≤ 65535 := by
  intro u hu
  have h1 := (List.takeWhile_prefix (l := unE e) (fun u => decide (u ≠ 0))).subset hu
  unfold unE at h1
  obtain ⟨j, _, rfl⟩ := List.mem_map.1 h1
  exact fld_rng2
/-- A partition's cells, as the package has them. -/
def ptC (k st en sz : Int) (ty nm gu : List UInt8) (att : Int) : List Value := [.int .i64 k, .int .u64 st, .int .u64 en, .int .u64 sz, .string (str ty), .string (str nm), .string (str gu), .int .u64 att, .int .i64 512, .int .i64 512]
/-- An entry of the array that is in use, with its place. -/
def entC (k sz : Int) (e : List UInt8) : List Value := ptC k (fld e 32 8) (fld e 40 8) sz (gT (pcs e 0 16)) (nmB e) (gT (pcs e 16 16)) (fld e 48 8)
def freeE (e : List UInt8) : Bool := decide (pcs e 0 16 = List.replicate 16 0)
/-- A row of units. -/
def R16 (w : World) (A : Option Addr) (n : Nat) (us : List Int) : Prop := us.length = n ∧ ∀ i u, us[i]? = some u → ∃ ad, A = some ad ∧ w.cell? (ad.add i) = some (.int .u16 u)
theorem R16.keep {w w' : World} {A : Option Addr} {n : Nat} {us : List Int} (h : R16 w A n us) (f : Fr [] w w') : R16 w' A n us :=
  ⟨h.1, fun i u hu => by obtain ⟨ad, e, hc⟩ := h.2 i u hu; exact ⟨ad, e, f.cell hc (by simp)⟩⟩
theorem OR.r16 {e : TypeId} {w0 : World} {S : List Nat} {w : World} {L : List Ent} {A : Option Addr} {n cap : Nat} {us : List Int} (O : OR e 1 w0 S w L A n cap (us.map (Value.int .u16))) : R16 w A n us := by
  have hl : us.length = n := by have := O.len; simpa using this
  refine ⟨hl, fun i u hu => ?_⟩
  have hi := (List.getElem?_eq_some_iff.1 hu).1
  obtain ⟨ad, rfl⟩ := O.some_of (by omega)
  exact ⟨ad, rfl, O.one (by rw [List.getElem?_map, hu]; rfl)⟩
theorem R16.at {w : World} {ad : Addr} {n : Nat} {us : List Int} (h : R16 w (some ad) n us) {i : Nat} {u : Int} (hu : us[i]? = some u) : w.cell? (ad.add i) = some (.int .u16 u) := by
  obtain ⟨ad', e, hc⟩ := h.2 i u hu
  cases e; exact hc
theorem add_block (ad : Addr) (i : Nat) : (ad.add i).block = ad.block := by unfold Addr.add; split <;> rfl
theorem cell_lt {w : World} {ad : Addr} {i : Nat} {v : Value} (h : w.cell? (ad.add i) = some v) : ad.block < w.heap.size := by
  rcases Nat.lt_or_ge ad.block w.heap.size with h1 | h1
  · exact h1
  · exfalso
    have e : (ad.add i).block = ad.block := by unfold Addr.add; split <;> rfl
    unfold World.cell? at h
    rw [e, Array.getElem?_eq_none h1] at h
    simp at h
/-- A row that began with a block that is new to the first world. -/
theorem OR.under {e : TypeId} {sz : Nat} {w0 w w' : World} {L : List Ent} {b : Nat} {A : Option Addr} {n cap : Nat} {xs : List Value} (F : Fr [] w0 w) (hb : w0.heap.size ≤ b) (O : OR e sz w [b] w' L A n cap xs) : OR e sz w0 [] w' L A n cap xs := by
  have hfr : ∀ {L : List Ent}, SH w [b] w' L → SH w0 [] w' L := fun {L} H => by
    refine ⟨F.then H.fr (by simpa using hb), H.get, H.ap, fun x hx hm => ?_⟩
    rcases H.mu x hx hm with h | h
    · simp at h; exact .inr (by omega)
    · exact .inr (Nat.le_trans F.size h)
  refine ⟨O.len, hfr O.sh, ?_⟩
  rcases O.own with h | ⟨b', cur, h1, h2, h3, h4, h5, h6⟩
  · exact .inl h
  · exact .inr ⟨b', cur, h1, h2, h3, h4, h5, hfr h6⟩
section steps
variable {P : Program} {n : Nat} {ops : Array Oper} {Q : Post} {rest : List Oper} {ρ : Env} {w : World} {ty : TypeId} {pos : String} {af : Array Edge} {d : Nat}
theorem cvRO {w0 : World} {S : List Nat} {L : List Ent} {s t e : TypeId} {x : Operand} {A : Option Addr} {l c cap : Nat} {ns : List Int} (O : OR e 1 w0 S w L A l cap (ns.map (Value.int .i32))) (hx : ev ρ x = .slice A l c) (hs : P.underlying s = some (.slice e)) (he : P.underlying e = some (.int .i32)) (ht : P.underlying t = some .string) (hn : Nat.blt d n = true)
    (kk : wl P n ops Q rest (upd ρ d (.string (str (encL ns)))) w) : wl P n ops Q (⟨some d, .convert s t x, ty, pos, af, none⟩ :: rest) ρ w := by
  have hlen : ns.length = l := by have := O.len; simpa using this
  have hc := run_convert_runes_string (P := P) w s t e A l c hs he ht
  cases A with
  | none =>
    have h0 : l = 0 := by
      rcases O.own with ⟨_, h, _⟩ | ⟨b, cur, h, _⟩
      · exact h
      · cases h
    have hns : ns = [] := List.eq_nil_of_length_eq_zero (by omega)
    subst hns
    refine val rfl rfl hn ?_ kk
    subst h0
    simp [execOp, hx, hc, Conv.runesToString, encL]
    rfl
  | some ad =>
    have hload : (loadCells ad l).run P w = .ok (ns.map (Value.int .i32)).toArray w := by
      have := run_loadCells_list (P := P) w ad (ns.map (Value.int .i32)) (fun j v hj => O.one hj)
      rw [List.length_map, hlen] at this
      exact this
    have hr := run_runesToString (P := P) w ad l c ns hload
    refine val rfl rfl hn ?_ kk
    have e1 : str (encL ns) = runesBytes ns := by
      rw [← rBytes_eq, rBytes, List.take_length, str_data]
    rw [e1]
    simp [execOp, hx, hc, hr]
end steps
end Go.Proofs.Ythcaejaaalkglaa.X
/- Walks of functions, printed by a program of this claim. -/
namespace Go.Proofs.Ythcaejaaalkglaa.X
set_option linter.unusedVariables false
set_option linter.unusedSimpArgs false
open Go Go.RowKit

namespace P15
theorem ca64 : callable Try.prog 64 = true := by kernel_rfl
theorem ca65 : callable Try.prog 65 = true := by kernel_rfl
theorem mi21 : elemInfo Try.prog 21 = some (.int .i32 0, 4) := by kernel_rfl
theorem ri21 : rowInfo Try.prog 21 = some ([.int .i32 0], 4) := by kernel_rfl
theorem sc22 : scalarB Try.prog 22 = true := by kernel_rfl
theorem sz21_1 : sizeB Try.prog 21 1 = true := by kernel_rfl
theorem sz22_1 : sizeB Try.prog 22 1 = true := by kernel_rfl
theorem ze21 : zeroL Try.prog 21 = some [.int .i32 0] := by kernel_rfl

end P15
open P15

set_option maxRecDepth 100000 in
set_option maxHeartbeats 1000000 in
theorem c_decRune (w : World) (u1 u2 : Int) (hu : 55296 ≤ u1 ∧ u1 < 56320) (hv : 56320 ≤ u2 ∧ u2 < 57344) : Calls Try.prog 65 #[.int .i32 u1, .int .i32 u2] w (Ret fun v w' => v = .int .i32 ((u1 - 55296) * 1024 + (u2 - 56320) + 65536) ∧ Fr [] w w') := by
  refine enter (fun ρ => ρ 4) Try.func65 rfl rfl rfl (res1 rfl) ?_
  have H := SH.nil w
  refine sq ?_
  refine rg ?_
  refine asg (v := .int .i32 _) rfl rfl ?_
  refine nl ?_
  refine then_n ?_
  refine sq ?_
  refine sq ?_
  refine rg ?_
  refine mv (v := .int .i32 _) rfl rfl ?_
  refine leq rfl rfl rfl ?_
  refine mv (v := .bool _) rfl rfl ?_
  first | refine spL (t := 7) (b := true) rfl ?_ | refine spT (t := 7) rfl (by omega) ?_   -- guard 1
  refine gy rfl ?_
  refine mv (v := .int .i32 _) rfl rfl ?_
  refine gy rfl ?_
  refine lss rfl rfl rfl ?_
  refine pkT (v := .bool _) rfl rfl rfl ?_
  refine mv (v := .bool _) rfl rfl ?_
  first | refine spL (t := 11) (b := true) rfl ?_ | refine spT (t := 11) rfl (by omega) ?_   -- guard 2
  refine gy rfl ?_
  refine mv (v := .int .i32 _) rfl rfl ?_
  refine gy rfl ?_
  refine leq rfl rfl rfl ?_
  refine pkT (v := .bool _) rfl rfl rfl ?_
  refine mv (v := .bool _) rfl rfl ?_
  first | refine spL (t := 15) (b := true) rfl ?_ | refine spT (t := 15) rfl (by omega) ?_   -- guard 3
  refine gy rfl ?_
  refine mv (v := .int .i32 _) rfl rfl ?_
  refine gy rfl ?_
  refine lss rfl rfl rfl ?_
  refine pkT (v := .bool _) rfl rfl rfl ?_
  refine nl ?_
  refine then_n ?_
  first | refine cT rfl (by omega) ?_ | refine cbT rfl (by omega) ?_   -- test 1
  refine sq ?_
  refine rg ?_
  refine mv (v := .int .i32 _) rfl rfl ?_
  refine sub rfl rfl (by first | exact w_i32 (by omega) | exact w_i32 (rng_i32 _) | rfl) rfl ?_
  refine shlK (s := 10) (p := 1024) rfl rfl (by decide) (by decide) (by first | exact w_i32 (by omega) | exact w_i32 (rng_i32 _) | rfl) rfl ?_
  refine mv (v := .int .i32 _) rfl rfl ?_
  refine sub rfl rfl (by first | exact w_i32 (by omega) | exact w_i32 (rng_i32 _) | rfl) rfl ?_
  refine bor (c := (u1 - 55296) * 1024 + (u2 - 56320)) rfl rfl (or1024 (by omega) (by omega)) rfl ?_
  refine add rfl rfl (by first | exact w_i32 (by omega) | exact w_i32 (rng_i32 _) | rfl) rfl ?_
  refine asg (v := .int .i32 _) rfl rfl ?_
  refine nl ?_
  refine then_n ?_
  refine rt ?_
  refine then_r ?_
  refine fin_r ?_
  exact ⟨rfl, H.fr⟩

set_option maxRecDepth 100000 in
set_option maxHeartbeats 1000000 in
theorem c_decode (w : World) (A : Option Addr) (n c bB cB : Nat) (us : List Int) (hR : R16 w A n us) (hn : n ≤ 1000000) (hne : 0 < n → ∀ ad, A = some ad → ad.block ≠ bB) (hus : ∀ u ∈ us, 0 ≤ u ∧ u ≤ 65535) (hB : w.heap[bB]? = some (.cells (List.replicate cB (.int .i32 0)).toArray 21 (0, 0))) (hcB : cB ≤ 1000000) : Calls Try.prog 64 #[.slice A n c, .slice (some ⟨bB, 0, none⟩) 0 cB] w (Ret fun v w' => ∃ D cap, v = .slice D (dec16 us).length cap ∧ OR 21 1 w [bB] w' [] D (dec16 us).length cap ((dec16 us).map (Value.int .i32))) := by
  refine enter (fun ρ => ρ 4) Try.func64 rfl rfl rfl (res1 rfl) ?_
  have H := SH.rw1 hB
  have hul := hR.1
  refine sq ?_
  refine rg ?_
  refine asg (v := .slice _ _ _) rfl rfl ?_
  refine nl ?_
  refine then_n ?_
  refine sq ?_
  refine sq ?_
  refine rg ?_
  refine asg (v := .int .i64 _) rfl rfl ?_
  refine nl ?_
  refine then_n ?_
  refine bk ?_
  refine lpM (α := Nat × Option Addr × Nat × List Int) [1, 5, 6, 7, 8, 9, 10, 11, 12, 13, 14, 15, 16, 17, 18, 19, 20, 21, 22, 23, 24, 25, 26, 27, 28, 29, 30, 31, 32, 33, 34, 35, 36, 37, 38, 39, 40, 41, 42, 43, 44, 45, 46, 47, 48, 49, 50, 51, 52, 53, 54, 55, 56, 57, 58, 59, 60, 61, 62, 63, 64, 65, 66, 67, 68, 69] (fun (i, D, cap, rs) => [(1, .slice D rs.length cap), (5, .int .i64 (i : Int))]) (fun (i, D, cap, rs) w' => i ≤ n ∧ rs.length ≤ i ∧ dec16 us = rs ++ dec16 (us.drop i) ∧ OR 21 1 w [bB] w' [] D rs.length cap (rs.map (Value.int .i32))) (fun (i, D, cap, rs) => n - i) (0, some ⟨bB, 0, none⟩, cB, []) ?_ (fC (by first | rfl | exact congrArg (Value.int _) (by first | omega | assumption | (symm; assumption) | (simp; done) | (simp; omega)) | exact congrArg (fun n => Value.slice _ n _) (by first | omega | (simp; done) | (simp; omega))) (fC (by first | rfl | exact congrArg (Value.int _) (by first | omega | assumption | (symm; assumption) | (simp; done) | (simp; omega)) | exact congrArg (fun n => Value.slice _ n _) (by first | omega | (simp; done) | (simp; omega))) (fN _))) ?_   -- loop 1
  · exact ⟨by omega, by simp, rfl, OR.made (n := 0) H (by omega) (by unfold maxLen; omega) (by simp)⟩
  · rintro ⟨i, D, cap, rs⟩ ρx w1 ⟨hi, hk, hd, O⟩
    have H := O.sh
    refine sq ?_
    refine sq ?_
    refine rg ?_
    refine mv (v := .int .i64 _) rfl rfl ?_
    refine mv (v := .slice _ _ _) rfl rfl ?_
    refine lnS rfl Try.underlying79 rfl ?_
    refine lss rfl rfl rfl ?_
    refine nl ?_
    refine then_n ?_
    first | refine cd rfl (fun hc1 => ?_) (fun hc1 => ?_) | refine cn rfl (fun hc1 => ?_) (fun hc1 => ?_)   -- test 1
    · obtain ⟨u, hu⟩ : ∃ u, us[i]? = some u := ⟨_, List.getElem?_eq_getElem (by omega)⟩
      have hur := hus u (List.mem_of_getElem? hu)
      obtain ⟨ad, rfl, hcell⟩ := hR.2 i u hu
      have hnb := hne (by omega) ad rfl
      have hcell := H.fr.cell hcell (by simpa [add_block] using hnb)
      refine sk ?_
      refine then_n ?_
      refine sq ?_
      refine bk ?_
      refine sq ?_
      refine rg ?_
      refine asg (v := .int .i32 _) rfl rfl ?_
      refine nl ?_
      refine then_n ?_
      refine ctM (α := Int × Nat) [5, 6, 7, 14, 15, 16, 17, 18, 19, 20, 21, 22, 23, 24, 25, 26, 27, 28, 29, 30, 31, 32, 33, 34, 35, 36, 37, 38, 39, 40, 41, 42, 43, 44, 45, 46, 47, 48, 49, 50, 51, 52, 53, 54, 55, 56, 57, 58, 59, 60, 61, 62, 63, 64, 65] (fun (r, j) => [(5, .int .i64 (j : Int)), (6, .int .i32 r)]) (fun (r, j) w' => i ≤ j ∧ j + 1 ≤ n ∧ dec16 (us.drop i) = r :: dec16 (us.drop (j + 1)) ∧ (0 ≤ r ∧ r ≤ 1114111) ∧ OR 21 1 w [bB] w' [] D rs.length cap (rs.map (Value.int .i32))) ?_ ?_   -- cut
      · refine sq ?_
        refine rg ?_
        refine mv (v := .slice _ _ _) rfl rfl ?_
        refine mv (v := .int .i64 _) rfl rfl ?_
        first | refine ia rfl rfl Try.underlying79 sz22_1 (by omega) rfl ?_ | refine iA rfl rfl Try.underlying79 sz22_1 (by omega) rfl ?_
        first | refine ld H rfl sc22 rfl rfl ?_ | refine lc rfl (by first | assumption | exact H.fr.cell (by assumption) (by simp)) sc22 rfl ?_ | refine ld H rfl sc22 (by assumption) rfl ?_
        refine asg (v := .int .u16 _) rfl rfl ?_
        refine nl ?_
        refine then_n ?_
        refine bk ?_
        refine sq ?_
        refine sq ?_
        refine rg ?_
        refine mv (v := .int .u16 _) rfl rfl ?_
        refine lss rfl rfl rfl ?_
        refine asg (v := .bool _) rfl rfl ?_
        refine nl ?_
        refine then_n ?_
        first | refine cd rfl (fun hc2 => ?_) (fun hc2 => ?_) | refine cn rfl (fun hc2 => ?_) (fun hc2 => ?_)   -- test 2
        · refine sk ?_
          refine then_n ?_
          first | refine cT rfl (by omega) ?_ | refine cbT rfl (by omega) ?_   -- test 3
          refine rg ?_
          refine mv (v := .int .u16 _) rfl rfl ?_
          refine cvi rfl rfl Try.underlying21 (by first | exact w_i32 (by omega) | exact w_i32 (rng_i32 _) | rfl) rfl ?_
          refine asg (v := .int .i32 _) rfl rfl ?_
          refine nl ?_
          refine in_n ?_
          refine then_n ?_
          exact ⟨(u, i), ⟨by omega, by omega, dec_A hu (by omega), by omega, O⟩, (fC (by first | rfl | exact congrArg (Value.int _) (by first | omega | assumption | (symm; assumption) | (simp; done) | (simp; omega)) | exact congrArg (fun n => Value.slice _ n _) (by first | omega | (simp; done) | (simp; omega))) (fC (by first | rfl | exact congrArg (Value.int _) (by first | omega | assumption | (symm; assumption) | (simp; done) | (simp; omega)) | exact congrArg (fun n => Value.slice _ n _) (by first | omega | (simp; done) | (simp; omega))) (fN _))), (by repeat (first | exact Agree.setL rfl Agree.mask | exact Agree.self _ _ | refine Agree.upd rfl ?_ | refine Agree.setL rfl ?_ | refine Agree.mask2 rfl ?_))⟩
        · refine rg ?_
          refine mv (v := .int .u16 _) rfl rfl ?_
          refine leq rfl rfl rfl ?_
          refine asg (v := .bool _) rfl rfl ?_
          refine nl ?_
          refine then_n ?_
          first | refine cd rfl (fun hc4 => ?_) (fun hc4 => ?_) | refine cn rfl (fun hc4 => ?_) (fun hc4 => ?_)   -- test 4
          · refine rg ?_
            refine mv (v := .int .u16 _) rfl rfl ?_
            refine cvi rfl rfl Try.underlying21 (by first | exact w_i32 (by omega) | exact w_i32 (rng_i32 _) | rfl) rfl ?_
            refine asg (v := .int .i32 _) rfl rfl ?_
            refine nl ?_
            refine in_n ?_
            refine then_n ?_
            exact ⟨(u, i), ⟨by omega, by omega, dec_A hu (by omega), by omega, O⟩, (fC (by first | rfl | exact congrArg (Value.int _) (by first | omega | assumption | (symm; assumption) | (simp; done) | (simp; omega)) | exact congrArg (fun n => Value.slice _ n _) (by first | omega | (simp; done) | (simp; omega))) (fC (by first | rfl | exact congrArg (Value.int _) (by first | omega | assumption | (symm; assumption) | (simp; done) | (simp; omega)) | exact congrArg (fun n => Value.slice _ n _) (by first | omega | (simp; done) | (simp; omega))) (fN _))), (by repeat (first | exact Agree.setL rfl Agree.mask | exact Agree.self _ _ | refine Agree.upd rfl ?_ | refine Agree.setL rfl ?_ | refine Agree.mask2 rfl ?_))⟩
          · refine sq ?_
            refine rg ?_
            refine mv (v := .int .u16 _) rfl rfl ?_
            refine leq rfl rfl rfl ?_
            refine mv (v := .bool _) rfl rfl ?_
            first | refine spL (t := 28) (b := true) rfl ?_ | refine spT (t := 28) rfl (by omega) ?_   -- guard 1
            refine gy rfl ?_
            refine mv (v := .int .u16 _) rfl rfl ?_
            refine gy rfl ?_
            refine lss rfl rfl rfl ?_
            refine pkT (v := .bool _) rfl rfl rfl ?_
            refine mv (v := .bool _) rfl rfl ?_
            first | refine spd (t := 32) rfl (fun hg2 => ?_) (fun hg2 => ?_) | refine sp (t := 32) rfl (fun hg2 => ?_) (fun hg2 => ?_)   -- guard 2
            · refine gy rfl ?_
              refine mv (v := .int .i64 _) rfl rfl ?_
              refine gy rfl ?_
              refine add rfl rfl (by first | exact w_i64 (by omega) | exact w_i64 (rng_i64 _) | rfl) rfl ?_
              refine gy rfl ?_
              refine mv (v := .slice _ _ _) rfl rfl ?_
              refine gy rfl ?_
              refine lnS rfl Try.underlying79 rfl ?_
              refine gy rfl ?_
              refine lss rfl rfl rfl ?_
              refine pkT (v := .bool _) rfl rfl rfl ?_
              refine mv (v := .bool _) rfl rfl ?_
              first | refine spd (t := 39) rfl (fun hg3 => ?_) (fun hg3 => ?_) | refine sp (t := 39) rfl (fun hg3 => ?_) (fun hg3 => ?_)   -- guard 3
              · obtain ⟨v2, hv2⟩ : ∃ v, us[i + 1]? = some v := ⟨_, List.getElem?_eq_getElem (by omega)⟩
                have hvr := hus v2 (List.mem_of_getElem? hv2)
                have hcell2 := H.fr.cell (hR.at hv2) (by simpa [add_block] using hnb)
                refine gy rfl ?_
                refine mv (v := .slice _ _ _) rfl rfl ?_
                refine gy rfl ?_
                refine mv (v := .int .i64 _) rfl rfl ?_
                refine gy rfl ?_
                refine add rfl rfl (by first | exact w_i64 (by omega) | exact w_i64 (rng_i64 _) | rfl) rfl ?_
                refine gy rfl ?_
                refine iBN (ad.add (i + 1)) rfl rfl Try.underlying79 sz22_1 (by omega) (congrArg ad.add (by omega)) rfl ?_
                refine gy rfl ?_
                first | refine ld H rfl sc22 rfl rfl ?_ | refine lc rfl (by first | assumption | exact H.fr.cell (by assumption) (by simp)) sc22 rfl ?_ | refine ld H rfl sc22 (by assumption) rfl ?_
                refine gy rfl ?_
                refine leq rfl rfl rfl ?_
                refine pkT (v := .bool _) rfl rfl rfl ?_
                refine mv (v := .bool _) rfl rfl ?_
                first | refine spd (t := 47) rfl (fun hg4 => ?_) (fun hg4 => ?_) | refine sp (t := 47) rfl (fun hg4 => ?_) (fun hg4 => ?_)   -- guard 4
                · refine gy rfl ?_
                  refine mv (v := .slice _ _ _) rfl rfl ?_
                  refine gy rfl ?_
                  refine mv (v := .int .i64 _) rfl rfl ?_
                  refine gy rfl ?_
                  refine add rfl rfl (by first | exact w_i64 (by omega) | exact w_i64 (rng_i64 _) | rfl) rfl ?_
                  refine gy rfl ?_
                  refine iBN (ad.add (i + 1)) rfl rfl Try.underlying79 sz22_1 (by omega) (congrArg ad.add (by omega)) rfl ?_
                  refine gy rfl ?_
                  first | refine ld H rfl sc22 rfl rfl ?_ | refine lc rfl (by first | assumption | exact H.fr.cell (by assumption) (by simp)) sc22 rfl ?_ | refine ld H rfl sc22 (by assumption) rfl ?_
                  refine gy rfl ?_
                  refine lss rfl rfl rfl ?_
                  refine pkT (v := .bool _) rfl rfl rfl ?_
                  refine asg (v := .bool _) rfl rfl ?_
                  refine nl ?_
                  refine then_n ?_
                  first | refine cd rfl (fun hc5 => ?_) (fun hc5 => ?_) | refine cn rfl (fun hc5 => ?_) (fun hc5 => ?_)   -- test 5
                  · refine sq ?_
                    refine rg ?_
                    refine mv (v := .int .u16 _) rfl rfl ?_
                    refine cvi rfl rfl Try.underlying21 (by first | exact w_i32 (by omega) | exact w_i32 (rng_i32 _) | rfl) rfl ?_
                    refine mv (v := .slice _ _ _) rfl rfl ?_
                    refine mv (v := .int .i64 _) rfl rfl ?_
                    refine add rfl rfl (by first | exact w_i64 (by omega) | exact w_i64 (rng_i64 _) | rfl) rfl ?_
                    refine iBN (ad.add (i + 1)) rfl rfl Try.underlying79 sz22_1 (by omega) (congrArg ad.add (by omega)) rfl ?_
                    first | refine ld H rfl sc22 rfl rfl ?_ | refine lc rfl (by first | assumption | exact H.fr.cell (by assumption) (by simp)) sc22 rfl ?_ | refine ld H rfl sc22 (by assumption) rfl ?_
                    refine cvi rfl rfl Try.underlying21 (by first | exact w_i32 (by omega) | exact w_i32 (rng_i32 _) | rfl) rfl ?_
                    refine cl ca65 (c_decRune _ u v2 (by omega) (by omega)) rfl ?_
                    rintro _ w2 ⟨rfl, F⟩
                    replace H := H.keep F; replace O := O.keep F; clear F
                    refine asg (v := .int .i32 _) rfl rfl ?_
                    refine nl ?_
                    refine then_n ?_
                    refine rg ?_
                    refine mv (v := .int .i64 _) rfl rfl ?_
                    refine add rfl rfl (by first | exact w_i64 (by omega) | exact w_i64 (rng_i64 _) | rfl) rfl ?_
                    refine asg (v := .int .i64 _) rfl rfl ?_
                    refine nl ?_
                    refine in_n ?_
                    refine then_n ?_
                    exact ⟨(_, i + 1), ⟨by omega, by omega, dec_B hu hv2 (by omega) (by omega), by omega, O⟩, (fC (by first | rfl | exact congrArg (Value.int _) (by first | omega | assumption | (symm; assumption) | (simp; done) | (simp; omega)) | exact congrArg (fun n => Value.slice _ n _) (by first | omega | (simp; done) | (simp; omega))) (fC (by first | rfl | exact congrArg (Value.int _) (by first | omega | assumption | (symm; assumption) | (simp; done) | (simp; omega)) | exact congrArg (fun n => Value.slice _ n _) (by first | omega | (simp; done) | (simp; omega))) (fN _))), (by repeat (first | exact Agree.setL rfl Agree.mask | exact Agree.self _ _ | refine Agree.upd rfl ?_ | refine Agree.setL rfl ?_ | refine Agree.mask2 rfl ?_))⟩
                  · refine rg ?_
                    refine asg (v := .int .i32 _) rfl rfl ?_
                    refine nl ?_
                    refine in_n ?_
                    refine then_n ?_
                    exact ⟨(65533, i), ⟨by omega, by omega, dec_C hu (by omega) (fun v h => by rw [hv2] at h; cases h; omega), by omega, O⟩, (fC (by first | rfl | exact congrArg (Value.int _) (by first | omega | assumption | (symm; assumption) | (simp; done) | (simp; omega)) | exact congrArg (fun n => Value.slice _ n _) (by first | omega | (simp; done) | (simp; omega))) (fC (by first | rfl | exact congrArg (Value.int _) (by first | omega | assumption | (symm; assumption) | (simp; done) | (simp; omega)) | exact congrArg (fun n => Value.slice _ n _) (by first | omega | (simp; done) | (simp; omega))) (fN _))), (by repeat (first | exact Agree.setL rfl Agree.mask | exact Agree.self _ _ | refine Agree.upd rfl ?_ | refine Agree.setL rfl ?_ | refine Agree.mask2 rfl ?_))⟩
                · refine gn rfl rfl ?_
                  refine gn rfl rfl ?_
                  refine gn rfl rfl ?_
                  refine gn rfl rfl ?_
                  refine gn rfl rfl ?_
                  refine gn rfl rfl ?_
                  refine pkF (v := .bool _) rfl rfl rfl ?_
                  refine asg (v := .bool _) rfl rfl ?_
                  refine nl ?_
                  refine then_n ?_
                  refine cbF rfl rfl ?_
                  refine rg ?_
                  refine asg (v := .int .i32 _) rfl rfl ?_
                  refine nl ?_
                  refine in_n ?_
                  refine then_n ?_
                  exact ⟨(65533, i), ⟨by omega, by omega, dec_C hu (by omega) (fun v h => by rw [hv2] at h; cases h; omega), by omega, O⟩, (fC (by first | rfl | exact congrArg (Value.int _) (by first | omega | assumption | (symm; assumption) | (simp; done) | (simp; omega)) | exact congrArg (fun n => Value.slice _ n _) (by first | omega | (simp; done) | (simp; omega))) (fC (by first | rfl | exact congrArg (Value.int _) (by first | omega | assumption | (symm; assumption) | (simp; done) | (simp; omega)) | exact congrArg (fun n => Value.slice _ n _) (by first | omega | (simp; done) | (simp; omega))) (fN _))), (by repeat (first | exact Agree.setL rfl Agree.mask | exact Agree.self _ _ | refine Agree.upd rfl ?_ | refine Agree.setL rfl ?_ | refine Agree.mask2 rfl ?_))⟩
              · refine gn rfl rfl ?_
                refine gn rfl rfl ?_
                refine gn rfl rfl ?_
                refine gn rfl rfl ?_
                refine gn rfl rfl ?_
                refine gn rfl rfl ?_
                refine pkF (v := .bool _) rfl rfl rfl ?_
                refine mv (v := .bool _) rfl rfl ?_
                refine gn rfl rfl ?_
                refine gn rfl rfl ?_
                refine gn rfl rfl ?_
                refine gn rfl rfl ?_
                refine gn rfl rfl ?_
                refine gn rfl rfl ?_
                refine pkF (v := .bool _) rfl rfl rfl ?_
                refine asg (v := .bool _) rfl rfl ?_
                refine nl ?_
                refine then_n ?_
                refine cbF rfl rfl ?_
                refine rg ?_
                refine asg (v := .int .i32 _) rfl rfl ?_
                refine nl ?_
                refine in_n ?_
                refine then_n ?_
                exact ⟨(65533, i), ⟨by omega, by omega, dec_C hu (by omega) (fun v h => by have := (List.getElem?_eq_some_iff.1 h).1; omega), by omega, O⟩, (fC (by first | rfl | exact congrArg (Value.int _) (by first | omega | assumption | (symm; assumption) | (simp; done) | (simp; omega)) | exact congrArg (fun n => Value.slice _ n _) (by first | omega | (simp; done) | (simp; omega))) (fC (by first | rfl | exact congrArg (Value.int _) (by first | omega | assumption | (symm; assumption) | (simp; done) | (simp; omega)) | exact congrArg (fun n => Value.slice _ n _) (by first | omega | (simp; done) | (simp; omega))) (fN _))), (by repeat (first | exact Agree.setL rfl Agree.mask | exact Agree.self _ _ | refine Agree.upd rfl ?_ | refine Agree.setL rfl ?_ | refine Agree.mask2 rfl ?_))⟩
            · refine gn rfl rfl ?_
              refine gn rfl rfl ?_
              refine gn rfl rfl ?_
              refine gn rfl rfl ?_
              refine gn rfl rfl ?_
              refine pkF (v := .bool _) rfl rfl rfl ?_
              refine mv (v := .bool _) rfl rfl ?_
              refine gn rfl rfl ?_
              refine gn rfl rfl ?_
              refine gn rfl rfl ?_
              refine gn rfl rfl ?_
              refine gn rfl rfl ?_
              refine gn rfl rfl ?_
              refine pkF (v := .bool _) rfl rfl rfl ?_
              refine mv (v := .bool _) rfl rfl ?_
              refine gn rfl rfl ?_
              refine gn rfl rfl ?_
              refine gn rfl rfl ?_
              refine gn rfl rfl ?_
              refine gn rfl rfl ?_
              refine gn rfl rfl ?_
              refine pkF (v := .bool _) rfl rfl rfl ?_
              refine asg (v := .bool _) rfl rfl ?_
              refine nl ?_
              refine then_n ?_
              refine cbF rfl rfl ?_
              refine rg ?_
              refine asg (v := .int .i32 _) rfl rfl ?_
              refine nl ?_
              refine in_n ?_
              refine then_n ?_
              exact ⟨(65533, i), ⟨by omega, by omega, dec_C hu (by omega) (fun v h => by omega), by omega, O⟩, (fC (by first | rfl | exact congrArg (Value.int _) (by first | omega | assumption | (symm; assumption) | (simp; done) | (simp; omega)) | exact congrArg (fun n => Value.slice _ n _) (by first | omega | (simp; done) | (simp; omega))) (fC (by first | rfl | exact congrArg (Value.int _) (by first | omega | assumption | (symm; assumption) | (simp; done) | (simp; omega)) | exact congrArg (fun n => Value.slice _ n _) (by first | omega | (simp; done) | (simp; omega))) (fN _))), (by repeat (first | exact Agree.setL rfl Agree.mask | exact Agree.self _ _ | refine Agree.upd rfl ?_ | refine Agree.setL rfl ?_ | refine Agree.mask2 rfl ?_))⟩
      · rintro ⟨r, j⟩ ρx w3 ⟨hj, hjn, hdr, hrr, O⟩
        have H := O.sh
        refine rg ?_
        refine mv (v := .slice _ _ _) rfl rfl ?_
        refine mv (v := .int .i32 _) rfl rfl ?_
        refine bsl (sz := 1) (out := ?o1) H Try.underlying129 ze21 sz21_1 (by decide) ?f1 rfl ?_
        case f1 =>
          refine FS.one (v := .int .i32 _) rfl rfl rfl (by first | decide | simp) ?_
          exact FS.nil
        intro b1 w4 hb1 H1 F; replace O := O.new F hb1 H1.look; clear H H1 F; have H := O.sh
        refine apO (zs := [.int .i32 0]) [.int .i32 r] O rfl rfl Try.underlying129 ri21 (by first | rfl | simp) (cells_look H.look) (by simp [Value.oneCell']) (by simp) (by omega) (by unfold maxLen; omega) rfl ?_
        clear O H; intro D9 cp9 w5 O
        have H := O.sh
        refine asg (v := .slice _ _ _) rfl rfl ?_
        refine nl ?_
        refine in_n ?_
        refine then_n ?_
        refine rg ?_
        refine mv (v := .int .i64 _) rfl rfl ?_
        refine add rfl rfl (by first | exact w_i64 (by omega) | exact w_i64 (rng_i64 _) | rfl) rfl ?_
        refine asg (v := .int .i64 _) rfl rfl ?_
        refine nl ?_
        refine loop_n ?_
        exact ⟨(j + 1, D9, cp9, rs ++ [r]), (by (try dsimp only); omega), ⟨by omega, by simp; omega, by rw [hd, hdr, List.append_assoc]; rfl, by rw [List.length_append, List.map_append]; exact O.sub (by repeat (first | exact List.Sublist.refl _ | exact List.nil_sublist _ | apply List.Sublist.cons_cons | apply List.Sublist.cons))⟩, (fC (by first | rfl | exact congrArg (Value.int _) (by first | omega | assumption | (symm; assumption) | (simp; done) | (simp; omega)) | exact congrArg (fun n => Value.slice _ n _) (by first | omega | (simp; done) | (simp; omega))) (fC (by first | rfl | exact congrArg (Value.int _) (by first | omega | assumption | (symm; assumption) | (simp; done) | (simp; omega)) | exact congrArg (fun n => Value.slice _ n _) (by first | omega | (simp; done) | (simp; omega))) (fN _))), (by repeat (first | exact Agree.setL rfl Agree.mask | exact Agree.self _ _ | refine Agree.upd rfl ?_ | refine Agree.setL rfl ?_ | refine Agree.mask2 rfl ?_))⟩
    · refine ex ?_
      refine then_e ?_
      refine loop_e ?_
      refine in_hit rfl ?_
      refine then_n ?_
      refine sq ?_
      refine rg ?_
      refine mv (v := .slice _ _ _) rfl rfl ?_
      refine asg (v := .slice _ _ _) rfl rfl ?_
      refine nl ?_
      refine then_n ?_
      refine rt ?_
      refine fin_r ?_
      obtain rfl : i = n := by omega
      have e : dec16 us = rs := by rw [hd, List.drop_of_length_le (by omega)]; simp [dec16]
      rw [e]
      exact ⟨_, _, rfl, O⟩

set_option maxRecDepth 100000 in
set_option maxHeartbeats 1000000 in
theorem c_Decode (w : World) (A : Option Addr) (n c : Nat) (us : List Int) (hR : R16 w A n us) (hn : n ≤ 1000000) (hus : ∀ u ∈ us, 0 ≤ u ∧ u ≤ 65535) : Calls Try.prog 63 #[.slice A n c] w (Ret fun v w' => ∃ D cap, v = .slice D (dec16 us).length cap ∧ OR 21 1 w [] w' [] D (dec16 us).length cap ((dec16 us).map (Value.int .i32))) := by
  refine enter (fun ρ => ρ 2) Try.func63 rfl rfl rfl (res1 rfl) ?_
  have H := SH.nil w
  have hul := hR.1
  refine sq ?_
  refine rg ?_
  refine asg (v := .slice _ _ _) rfl rfl ?_
  refine nl ?_
  refine then_n ?_
  refine sq ?_
  refine rg ?_
  refine mk H rfl rfl Try.underlying129 mi21 (by omega) (by omega) (by omega) (by omega) rfl ?_
  clear H; intro b1 w1 hb1 H _
  refine asg (v := .slice _ _ _) rfl rfl ?_
  refine nl ?_
  refine then_n ?_
  refine sq ?_
  refine rg ?_
  refine mv (v := .slice _ _ _) rfl rfl ?_
  refine mv (v := .slice _ _ _) rfl rfl ?_
  refine cl ca64 (c_decode _ A n _ b1 64 us (hR.keep H.fr) hn (fun h ad e => by subst e; obtain ⟨u0, hu0⟩ : ∃ u, us[0]? = some u := ⟨_, List.getElem?_eq_getElem (by omega)⟩; have := cell_lt (hR.at hu0); omega) hus (H.look (b := b1)) (by decide)) rfl ?_
  rintro _ w2 ⟨DD, capD, rfl, O⟩
  have O := O.under H.fr hb1
  refine asg (v := .slice _ _ _) rfl rfl ?_
  refine nl ?_
  refine then_n ?_
  refine rt ?_
  refine fin_r ?_
  exact ⟨_, _, rfl, O⟩

end Go.Proofs.Ythcaejaaalkglaa.X
