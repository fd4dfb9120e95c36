/- Walks of functions, printed by a program of this claim. -/
import Derived.Test.YtbldfojecpljoaaB2
namespace Go.Proofs.Ytbldfojecpljoaa.X
set_option linter.unusedVariables false
set_option linter.unusedSimpArgs false
open Go Go.RowKit

namespace B4
theorem ca20 : callable Try.prog 20 = true := by kernel_rfl
theorem ca22 : callable Try.prog 22 = true := by kernel_rfl
theorem ca32 : callable Try.prog 32 = true := by kernel_rfl
theorem ca33 : callable Try.prog 33 = true := by kernel_rfl
theorem ca34 : callable Try.prog 34 = true := by kernel_rfl
theorem ca40 : callable Try.prog 40 = true := by kernel_rfl
theorem ca47 : callable Try.prog 47 = true := by kernel_rfl
theorem ca48 : callable Try.prog 48 = true := by kernel_rfl
theorem fo91_0 : fieldOff Try.prog 91 0 = some 0 := by kernel_rfl
theorem sc23 : scalarB Try.prog 23 = true := by kernel_rfl
theorem sc5 : scalarB Try.prog 5 = true := by kernel_rfl
theorem sz5_1 : sizeB Try.prog 5 1 = true := by kernel_rfl

end B4
open B4

set_option maxRecDepth 100000 in
theorem c_firstSet (w : World) (bm bb m : Nat) (bs : List UInt8) (hbl : bs.length = m) (hm : w.heap[bm]? = some (.cells [.slice (some ⟨bb, 0, none⟩) m m].toArray 91 (0, 0))) (hb : w.heap[bb]? = some (.cells (Bs bs).toArray 5 (0, 0))) (hl : m ≤ 140737488355328) : Calls Try.prog 48 #[.pointer (some ⟨bm, 0, none⟩)] w (Ret fun v w' => v = .int .i64 (findF bs true 0) ∧ Fr [] w w') := by
  refine enter (fun ρ => ρ 2) Try.func48 rfl rfl rfl (res1 rfl) ?_
  have H := SH.ro2 hm hb
  obtain ⟨k, hk⟩ : ∃ k : Nat, k = 0 := ⟨0, rfl⟩
  refine sq ?_
  refine rg ?_
  refine asg (v := .int .i64 _) rfl rfl ?_
  refine nl ?_
  refine then_n ?_
  refine sq ?_
  refine sq ?_
  refine rg ?_
  refine mv (v := .pointer _) rfl rfl ?_
  first | refine nc rfl rfl ?_ | refine nci rfl rfl ?_
  refine fa rfl fo91_0 rfl ?_
  first | refine ld H rfl sc23 rfl rfl ?_ | refine lc rfl (by assumption) sc23 rfl ?_
  refine lnS rfl Try.underlying23 rfl ?_
  refine mv (v := .int .i64 _) rfl rfl ?_
  refine nl ?_
  refine then_n ?_
  refine bk ?_
  refine lpM (α := Nat) [2, 3, 4, 5, 11, 12, 13, 14, 15, 16, 17, 18, 19, 20, 21, 22, 23, 24, 25, 26, 27, 28, 29, 30, 31, 32] (fun i => [(11, .int .i64 (i : Int))]) (fun i w' => i ≤ m ∧ findF bs true k = findF bs true (8 * i) ∧ SH w [] w' [⟨bm, .cells [.slice (some ⟨bb, 0, none⟩) m m].toArray 91 (0, 0), false⟩, ⟨bb, .cells (Bs bs).toArray 5 (0, 0), false⟩]) (fun i => m - i) 0 ?_ (fC (by first | rfl | exact congrArg (Value.int _) (by omega)) (fN _)) ?_   -- loop 1
  · exact ⟨by omega, by rw [hk], H⟩
  · rintro i ρx w1 ⟨hi, hf, H⟩
    have ei : 0 + ((i : Int)).toNat * 1 = i := by omega
    refine sq ?_
    refine rg ?_
    refine lss rfl rfl rfl ?_
    refine nl ?_
    refine then_n ?_
    refine sq ?_
    first | refine cd rfl (fun hc1 => ?_) (fun hc1 => ?_) | refine cn rfl (fun hc1 => ?_) (fun hc1 => ?_)   -- test 1
    · refine sk ?_
      refine then_n ?_
      refine sq ?_
      refine bk ?_
      refine sq ?_
      refine rg ?_
      refine mv (v := .int .i64 _) rfl rfl ?_
      first | refine ia rfl rfl Try.underlying23 sz5_1 (by omega) rfl ?_ | refine iA rfl rfl Try.underlying23 sz5_1 (by omega) rfl ?_
      first | (refine ldb H rfl sc5 (by omega) rfl ?_; intro hu1) | refine ld H rfl sc5 rfl rfl ?_ | refine lc rfl (by assumption) sc5 rfl ?_
      refine asg (v := .int .i64 _) rfl rfl ?_
      refine asg (v := .int .u8 _) rfl rfl ?_
      refine nl ?_
      refine then_n ?_
      refine sq ?_
      refine sq ?_
      refine rg ?_
      refine mv (v := .int .u8 _) rfl rfl ?_
      refine eql rfl rfl rfl ?_
      refine nl ?_
      refine then_n ?_
      first | refine cd rfl (fun hc2 => ?_) (fun hc2 => ?_) | refine cn rfl (fun hc2 => ?_) (fun hc2 => ?_)   -- test 2
      · refine ex ?_
        refine then_e ?_
        refine in_hit rfl ?_
        refine then_n ?_
        refine rg ?_
        refine add rfl rfl (by first | exact w_i64 (by omega) | exact w_i64 (rng_i64 _) | rfl) rfl ?_
        refine mv (v := .int .i64 _) rfl rfl ?_
        refine nl ?_
        refine loop_n ?_
        exact ⟨i + 1, (by (try dsimp only); omega), ⟨by omega, by rw [hf, findF_byte (c := 0) (by omega) (u8_of_int (n := 0) (by rw [ei] at hc2; omega) (by decide)) (fun j => by simp [tb_00 j])], H⟩, (fC (by first | rfl | exact congrArg (Value.int _) (by omega)) (fN _)), (by repeat (first | exact Agree.setL rfl Agree.mask | refine Agree.upd rfl ?_ | refine Agree.setL rfl ?_ | refine Agree.mask2 rfl ?_))⟩
      · refine sk ?_
        refine then_n ?_
        refine sq ?_
        refine rg ?_
        refine asg (v := .int .u8 _) rfl rfl ?_
        refine nl ?_
        refine then_n ?_
        refine bk ?_
        refine lpM (α := Nat) [2, 5, 18, 19, 20, 21, 22, 23, 24, 25, 26, 27, 28, 29, 30, 31] (fun j => [(5, .int .u8 (j : Int))]) (fun j w' => j ≤ 8 ∧ findF bs true (8 * i + 0) = findF bs true (8 * i + j) ∧ SH w [] w' [⟨bm, .cells [.slice (some ⟨bb, 0, none⟩) m m].toArray 91 (0, 0), false⟩, ⟨bb, .cells (Bs bs).toArray 5 (0, 0), false⟩]) (fun j => 8 - j) 0 ?_ (fC (by first | rfl | exact congrArg (Value.int _) (by omega)) (fN _)) ?_   -- loop 2
        · exact ⟨by omega, rfl, H⟩
        · rintro j ρx w2 ⟨hj, hg, H⟩
          refine sq ?_
          refine sq ?_
          refine rg ?_
          refine mv (v := .int .u8 _) rfl rfl ?_
          refine lss rfl rfl rfl ?_
          refine nl ?_
          refine then_n ?_
          first | refine cd rfl (fun hc3 => ?_) (fun hc3 => ?_) | refine cn rfl (fun hc3 => ?_) (fun hc3 => ?_)   -- test 3
          · refine sk ?_
            refine then_n ?_
            refine sq ?_
            refine bk ?_
            refine sq ?_
            refine rg ?_
            refine mv (v := .int .u8 _) rfl rfl ?_
            refine mv (v := .int .u8 _) rfl rfl ?_
            refine shl (c := mask8 j) rfl rfl (by omega) (mask8_eq' j) rfl ?_
            refine band rfl rfl rfl rfl ?_
            refine neq rfl rfl rfl ?_
            refine nl ?_
            refine then_n ?_
            first | refine cd rfl (fun hc4 => ?_) (fun hc4 => ?_) | refine cn rfl (fun hc4 => ?_) (fun hc4 => ?_)   -- test 4
            · refine sq ?_
              refine rg ?_
              refine mv (v := .int .i64 _) rfl rfl ?_
              refine mul rfl rfl (by first | exact w_i64 (by omega) | exact w_i64 (rng_i64 _) | rfl) rfl ?_
              refine mv (v := .int .u8 _) rfl rfl ?_
              refine cvi rfl rfl Try.underlying3 (by first | exact w_i64 (by omega) | exact w_i64 (rng_i64 _) | rfl) rfl ?_
              refine add rfl rfl (by first | exact w_i64 (by omega) | exact w_i64 (rng_i64 _) | rfl) rfl ?_
              refine asg (v := .int .i64 _) rfl rfl ?_
              refine nl ?_
              refine then_n ?_
              refine rt ?_
              refine in_r ?_
              refine then_r ?_
              refine loop_r ?_
              refine in_r ?_
              refine in_r ?_
              refine then_r ?_
              refine loop_r ?_
              refine in_r ?_
              refine then_r ?_
              refine fin_r ?_
              refine ⟨congrArg (Value.int .i64) ?_, H.fr⟩
              rw [← hk, hf, show 8 * i = 8 * i + 0 from rfl, hg, findF_hit (by omega) (by rw [bitAt_at (by omega)]; have q := tb_mask0 (bs.getD i 0) j (by omega); rw [ei] at hc4; cases hq : tb (bs.getD i 0) j with | true => rfl | false => exact absurd (q.2 hq) hc4)]
              omega
            · refine sk ?_
              refine in_n ?_
              refine then_n ?_
              refine rg ?_
              refine mv (v := .int .u8 _) rfl rfl ?_
              refine add rfl rfl (by first | exact w_u8 (by omega) | exact w_u8 (rng_u8 _) | exact m_u8 _) rfl ?_
              refine asg (v := .int .u8 _) rfl rfl ?_
              refine nl ?_
              refine loop_n ?_
              exact ⟨j + 1, (by (try dsimp only); omega), ⟨by omega, by rw [hg, findF_step (by omega) (by rw [bitAt_at (by omega)]; have q := tb_mask0 (bs.getD i 0) j (by omega); rw [ei] at hc4; rw [q.1 (by omega)]; decide)]; rfl, H⟩, (fC (by first | rfl | exact congrArg (Value.int _) (by omega)) (fN _)), (by repeat (first | exact Agree.setL rfl Agree.mask | refine Agree.upd rfl ?_ | refine Agree.setL rfl ?_ | refine Agree.mask2 rfl ?_))⟩
          · refine ex ?_
            refine then_e ?_
            refine loop_e ?_
            refine in_hit rfl ?_
            refine in_n ?_
            refine then_n ?_
            refine rg ?_
            refine add rfl rfl (by first | exact w_i64 (by omega) | exact w_i64 (rng_i64 _) | rfl) rfl ?_
            refine mv (v := .int .i64 _) rfl rfl ?_
            refine nl ?_
            refine loop_n ?_
            exact ⟨i + 1, (by (try dsimp only); omega), ⟨by omega, by rw [hf, show 8 * i = 8 * i + 0 from rfl, hg, show 8 * i + j = 8 * (i + 1) by omega], H⟩, (fC (by first | rfl | exact congrArg (Value.int _) (by omega)) (fN _)), (by repeat (first | exact Agree.setL rfl Agree.mask | refine Agree.upd rfl ?_ | refine Agree.setL rfl ?_ | refine Agree.mask2 rfl ?_))⟩
    · refine ex ?_
      refine then_e ?_
      refine loop_e ?_
      refine in_hit rfl ?_
      refine then_n ?_
      refine sq ?_
      refine rg ?_
      refine asg (v := .int .i64 _) rfl rfl ?_
      refine nl ?_
      refine then_n ?_
      refine rt ?_
      refine fin_r ?_
      refine ⟨congrArg (Value.int .i64) ?_, H.fr⟩
      rw [← hk, hf, findF_end (by omega)]

set_option maxRecDepth 100000 in
theorem c_firstFree (w : World) (bm bb m : Nat) (bs : List UInt8) (hbl : bs.length = m) (hm : w.heap[bm]? = some (.cells [.slice (some ⟨bb, 0, none⟩) m m].toArray 91 (0, 0))) (hb : w.heap[bb]? = some (.cells (Bs bs).toArray 5 (0, 0))) (hl : m ≤ 140737488355328) (k : Nat) (hk : k ≤ 1000000000) : Calls Try.prog 47 #[.pointer (some ⟨bm, 0, none⟩), .int .i64 (k : Int)] w (Ret fun v w' => v = .int .i64 (findF bs false k) ∧ Fr [] w w') := by
  refine enter (fun ρ => ρ 4) Try.func47 rfl rfl rfl (res1 rfl) ?_
  have H := SH.ro2 hm hb
  have e0 : 0 + ((k : Int) / 8).toNat * 1 = k / 8 := by omega
  refine sq ?_
  refine rg ?_
  refine asg (v := .int .i64 _) rfl rfl ?_
  refine nl ?_
  refine then_n ?_
  refine sq ?_
  refine sq ?_
  refine rg ?_
  refine mv (v := .int .i64 _) rfl rfl ?_
  refine lss rfl rfl rfl ?_
  refine nl ?_
  refine then_n ?_
  first | refine cF rfl (by omega) ?_ | refine cbF rfl (by omega) ?_   -- test 1
  refine sk ?_
  refine then_n ?_
  refine sq ?_
  refine rg ?_
  refine mv (v := .pointer _) rfl rfl ?_
  first | refine nc rfl rfl ?_ | refine nci rfl rfl ?_
  refine fa rfl fo91_0 rfl ?_
  first | refine ld H rfl sc23 rfl rfl ?_ | refine lc rfl (by assumption) sc23 rfl ?_
  refine lnS rfl Try.underlying23 rfl ?_
  refine mul rfl rfl (by first | exact w_i64 (by omega) | exact w_i64 (rng_i64 _) | rfl) rfl ?_
  refine asg (v := .int .i64 _) rfl rfl ?_
  refine nl ?_
  refine then_n ?_
  refine sq ?_
  refine sq ?_
  refine rg ?_
  refine mv (v := .int .i64 _) rfl rfl ?_
  refine mv (v := .int .i64 _) rfl rfl ?_
  refine geq rfl rfl rfl ?_
  refine nl ?_
  refine then_n ?_
  first | refine cd rfl (fun hc2 => ?_) (fun hc2 => ?_) | refine cn rfl (fun hc2 => ?_) (fun hc2 => ?_)   -- test 2
  · refine sq ?_
    refine rg ?_
    refine asg (v := .int .i64 _) rfl rfl ?_
    refine nl ?_
    refine then_n ?_
    refine rt ?_
    refine then_r ?_
    refine fin_r ?_
    exact ⟨congrArg (Value.int .i64) (by rw [findF_end (by omega)]), H.fr⟩
  · refine sk ?_
    refine then_n ?_
    refine sq ?_
    refine rg ?_
    refine mv (v := .int .i64 _) rfl rfl ?_
    refine quo rfl rfl (by omega) (by omega) (by first | exact w_i64 (by omega) | exact w_i64 (rng_i64 _) | rfl) rfl ?_
    refine asg (v := .int .i64 _) rfl rfl ?_
    refine nl ?_
    refine then_n ?_
    refine sq ?_
    refine rg ?_
    refine mv (v := .int .i64 _) rfl rfl ?_
    refine rem rfl rfl (by omega) (by omega) rfl rfl ?_
    refine cvi rfl rfl Try.underlying5 (by first | exact w_u8 (by omega) | exact w_u8 (rng_u8 _) | exact m_u8 _) rfl ?_
    refine asg (v := .int .u8 _) rfl rfl ?_
    refine nl ?_
    refine then_n ?_
    refine sq ?_
    refine rg ?_
    refine mv (v := .pointer _) rfl rfl ?_
    first | refine nc rfl rfl ?_ | refine nci rfl rfl ?_
    refine fa rfl fo91_0 rfl ?_
    first | refine ld H rfl sc23 rfl rfl ?_ | refine lc rfl (by assumption) sc23 rfl ?_
    refine mv (v := .int .i64 _) rfl rfl ?_
    first | refine ia rfl rfl Try.underlying23 sz5_1 (by omega) rfl ?_ | refine iA rfl rfl Try.underlying23 sz5_1 (by omega) rfl ?_
    first | (refine ldb H rfl sc5 (by omega) rfl ?_; intro hu1) | refine ld H rfl sc5 rfl rfl ?_ | refine lc rfl (by assumption) sc5 rfl ?_
    refine asg (v := .int .u8 _) rfl rfl ?_
    refine nl ?_
    refine then_n ?_
    refine sq ?_
    refine sq ?_
    refine rg ?_
    refine mv (v := .int .u8 _) rfl rfl ?_
    refine neq rfl rfl rfl ?_
    refine nl ?_
    refine then_n ?_
    first | refine cd rfl (fun hc3 => ?_) (fun hc3 => ?_) | refine cn rfl (fun hc3 => ?_) (fun hc3 => ?_)   -- test 3
    · refine sq ?_
      refine rg ?_
      refine mv (v := .int .u8 _) rfl rfl ?_
      refine asg (v := .int .u8 _) rfl rfl ?_
      refine nl ?_
      refine then_n ?_
      refine bk ?_
      refine lpM (α := Nat) [4, 9, 38, 39, 40, 41, 42, 43, 44, 45, 46, 47, 48, 49, 50, 51] (fun j => [(9, .int .u8 (j : Int))]) (fun j w' => j ≤ 8 ∧ findF bs false (8 * (k / 8) + (k % 8)) = findF bs false (8 * (k / 8) + j) ∧ SH w [] w' [⟨bm, .cells [.slice (some ⟨bb, 0, none⟩) m m].toArray 91 (0, 0), false⟩, ⟨bb, .cells (Bs bs).toArray 5 (0, 0), false⟩]) (fun j => 8 - j) (k % 8) ?_ (fC (by first | rfl | exact congrArg (Value.int _) (by omega)) (fN _)) ?_   -- loop 1
      · exact ⟨by omega, rfl, H⟩
      · rintro j ρx w1 ⟨hj, hg, H⟩
        refine sq ?_
        refine sq ?_
        refine rg ?_
        refine mv (v := .int .u8 _) rfl rfl ?_
        refine lss rfl rfl rfl ?_
        refine nl ?_
        refine then_n ?_
        first | refine cd rfl (fun hc4 => ?_) (fun hc4 => ?_) | refine cn rfl (fun hc4 => ?_) (fun hc4 => ?_)   -- test 4
        · refine sk ?_
          refine then_n ?_
          refine sq ?_
          refine bk ?_
          refine sq ?_
          refine rg ?_
          refine mv (v := .int .u8 _) rfl rfl ?_
          refine mv (v := .int .u8 _) rfl rfl ?_
          refine shl (c := mask8 j) rfl rfl (by omega) (mask8_eq' j) rfl ?_
          refine band rfl rfl rfl rfl ?_
          refine eql rfl rfl rfl ?_
          refine nl ?_
          refine then_n ?_
          first | refine cd rfl (fun hc5 => ?_) (fun hc5 => ?_) | refine cn rfl (fun hc5 => ?_) (fun hc5 => ?_)   -- test 5
          · refine sq ?_
            refine rg ?_
            refine mv (v := .int .i64 _) rfl rfl ?_
            refine mul rfl rfl (by first | exact w_i64 (by omega) | exact w_i64 (rng_i64 _) | rfl) rfl ?_
            refine mv (v := .int .u8 _) rfl rfl ?_
            refine cvi rfl rfl Try.underlying3 (by first | exact w_i64 (by omega) | exact w_i64 (rng_i64 _) | rfl) rfl ?_
            refine add rfl rfl (by first | exact w_i64 (by omega) | exact w_i64 (rng_i64 _) | rfl) rfl ?_
            refine asg (v := .int .i64 _) rfl rfl ?_
            refine nl ?_
            refine then_n ?_
            refine rt ?_
            refine in_r ?_
            refine then_r ?_
            refine loop_r ?_
            refine in_r ?_
            refine then_r ?_
            refine fin_r ?_
            refine ⟨congrArg (Value.int .i64) ?_, H.fr⟩
            rw [show findF bs false k = findF bs false (8 * (k / 8) + k % 8) by (congr 1; omega), hg, findF_hit (by omega) (by rw [bitAt_at (by omega)]; have q := tb_mask0 (bs.getD (k / 8) 0) j (by omega); rw [e0] at hc5; exact q.1 (by omega))]
            omega
          · refine sk ?_
            refine in_n ?_
            refine then_n ?_
            refine rg ?_
            refine mv (v := .int .u8 _) rfl rfl ?_
            refine add rfl rfl (by first | exact w_u8 (by omega) | exact w_u8 (rng_u8 _) | exact m_u8 _) rfl ?_
            refine asg (v := .int .u8 _) rfl rfl ?_
            refine nl ?_
            refine loop_n ?_
            exact ⟨j + 1, (by (try dsimp only); omega), ⟨by omega, by rw [hg, findF_step (by omega) (by rw [bitAt_at (by omega)]; have q := tb_mask0 (bs.getD (k / 8) 0) j (by omega); rw [e0] at hc5; cases hq : tb (bs.getD (k / 8) 0) j with | true => decide | false => exact absurd (q.2 hq) hc5)]; rfl, H⟩, (fC (by first | rfl | exact congrArg (Value.int _) (by omega)) (fN _)), (by repeat (first | exact Agree.setL rfl Agree.mask | refine Agree.upd rfl ?_ | refine Agree.setL rfl ?_ | refine Agree.mask2 rfl ?_))⟩
        · refine ex ?_
          refine then_e ?_
          refine loop_e ?_
          refine in_hit rfl ?_
          refine then_n ?_
          refine sq ?_
          refine sq ?_
          refine rg ?_
          refine mv (v := .int .i64 _) rfl rfl ?_
          refine add rfl rfl (by first | exact w_i64 (by omega) | exact w_i64 (rng_i64 _) | rfl) rfl ?_
          refine asg (v := .int .i64 _) rfl rfl ?_
          refine nl ?_
          refine then_n ?_
          refine bk ?_
          have hstart : findF bs false k = findF bs false (8 * (k / 8 + 1)) := by rw [show k = 8 * (k / 8) + k % 8 by omega, hg, show 8 * (k / 8) + j = 8 * (k / 8 + 1) by omega]; congr 1; omega
          refine lpM (α := Nat) [4, 8, 10, 11, 54, 55, 56, 57, 58, 59, 60, 61, 62, 63, 64, 65, 66, 67, 68, 69, 70, 71, 72, 73, 74, 75, 76, 77, 78, 79, 80, 81, 82, 83, 84, 85] (fun i => [(10, .int .i64 (i : Int))]) (fun i w' => i ≤ m ∧ findF bs false k = findF bs false (8 * i) ∧ SH w [] w' [⟨bm, .cells [.slice (some ⟨bb, 0, none⟩) m m].toArray 91 (0, 0), false⟩, ⟨bb, .cells (Bs bs).toArray 5 (0, 0), false⟩]) (fun i => m - i) (k / 8 + 1) ?_ (fC (by first | rfl | exact congrArg (Value.int _) (by omega)) (fN _)) ?_   -- loop 2
          · exact ⟨by omega, hstart, H⟩
          · rintro i ρx w2 ⟨hi, hf, H⟩
            have ei : 0 + ((i : Int)).toNat * 1 = i := by omega
            refine sq ?_
            refine sq ?_
            refine rg ?_
            refine mv (v := .int .i64 _) rfl rfl ?_
            refine mv (v := .pointer _) rfl rfl ?_
            first | refine nc rfl rfl ?_ | refine nci rfl rfl ?_
            refine fa rfl fo91_0 rfl ?_
            first | refine ld H rfl sc23 rfl rfl ?_ | refine lc rfl (by assumption) sc23 rfl ?_
            refine lnS rfl Try.underlying23 rfl ?_
            refine lss rfl rfl rfl ?_
            refine nl ?_
            refine then_n ?_
            first | refine cd rfl (fun hc6 => ?_) (fun hc6 => ?_) | refine cn rfl (fun hc6 => ?_) (fun hc6 => ?_)   -- test 6
            · refine sk ?_
              refine then_n ?_
              refine sq ?_
              refine bk ?_
              refine sq ?_
              refine rg ?_
              refine mv (v := .pointer _) rfl rfl ?_
              first | refine nc rfl rfl ?_ | refine nci rfl rfl ?_
              refine fa rfl fo91_0 rfl ?_
              first | refine ld H rfl sc23 rfl rfl ?_ | refine lc rfl (by assumption) sc23 rfl ?_
              refine mv (v := .int .i64 _) rfl rfl ?_
              first | refine ia rfl rfl Try.underlying23 sz5_1 (by omega) rfl ?_ | refine iA rfl rfl Try.underlying23 sz5_1 (by omega) rfl ?_
              first | (refine ldb H rfl sc5 (by omega) rfl ?_; intro hu2) | refine ld H rfl sc5 rfl rfl ?_ | refine lc rfl (by assumption) sc5 rfl ?_
              refine asg (v := .int .u8 _) rfl rfl ?_
              refine nl ?_
              refine then_n ?_
              refine sq ?_
              refine sq ?_
              refine rg ?_
              refine mv (v := .int .u8 _) rfl rfl ?_
              refine eql rfl rfl rfl ?_
              refine nl ?_
              refine then_n ?_
              first | refine cd rfl (fun hc7 => ?_) (fun hc7 => ?_) | refine cn rfl (fun hc7 => ?_) (fun hc7 => ?_)   -- test 7
              · refine ex ?_
                refine then_e ?_
                refine in_hit rfl ?_
                refine then_n ?_
                refine rg ?_
                refine mv (v := .int .i64 _) rfl rfl ?_
                refine add rfl rfl (by first | exact w_i64 (by omega) | exact w_i64 (rng_i64 _) | rfl) rfl ?_
                refine asg (v := .int .i64 _) rfl rfl ?_
                refine nl ?_
                refine loop_n ?_
                exact ⟨i + 1, (by (try dsimp only); omega), ⟨by omega, by rw [hf, findF_byte (c := 255) (by omega) (u8_of_int (n := 255) (by rw [ei] at hc7; omega) (by decide)) (fun j => by simp [tb_ff j])], H⟩, (fC (by first | rfl | exact congrArg (Value.int _) (by omega)) (fN _)), (by repeat (first | exact Agree.setL rfl Agree.mask | refine Agree.upd rfl ?_ | refine Agree.setL rfl ?_ | refine Agree.mask2 rfl ?_))⟩
              · refine sk ?_
                refine then_n ?_
                refine sq ?_
                refine rg ?_
                refine asg (v := .int .u8 _) rfl rfl ?_
                refine nl ?_
                refine then_n ?_
                refine bk ?_
                refine lpM (α := Nat) [4, 11, 72, 73, 74, 75, 76, 77, 78, 79, 80, 81, 82, 83, 84, 85] (fun j => [(11, .int .u8 (j : Int))]) (fun j w' => j ≤ 8 ∧ findF bs false (8 * i + 0) = findF bs false (8 * i + j) ∧ SH w [] w' [⟨bm, .cells [.slice (some ⟨bb, 0, none⟩) m m].toArray 91 (0, 0), false⟩, ⟨bb, .cells (Bs bs).toArray 5 (0, 0), false⟩]) (fun j => 8 - j) 0 ?_ (fC (by first | rfl | exact congrArg (Value.int _) (by omega)) (fN _)) ?_   -- loop 3
                · exact ⟨by omega, rfl, H⟩
                · rintro j ρx w3 ⟨hj, hg, H⟩
                  refine sq ?_
                  refine sq ?_
                  refine rg ?_
                  refine mv (v := .int .u8 _) rfl rfl ?_
                  refine lss rfl rfl rfl ?_
                  refine nl ?_
                  refine then_n ?_
                  first | refine cd rfl (fun hc8 => ?_) (fun hc8 => ?_) | refine cn rfl (fun hc8 => ?_) (fun hc8 => ?_)   -- test 8
                  · refine sk ?_
                    refine then_n ?_
                    refine sq ?_
                    refine bk ?_
                    refine sq ?_
                    refine rg ?_
                    refine mv (v := .int .u8 _) rfl rfl ?_
                    refine mv (v := .int .u8 _) rfl rfl ?_
                    refine shl (c := mask8 j) rfl rfl (by omega) (mask8_eq' j) rfl ?_
                    refine band rfl rfl rfl rfl ?_
                    refine eql rfl rfl rfl ?_
                    refine nl ?_
                    refine then_n ?_
                    first | refine cd rfl (fun hc9 => ?_) (fun hc9 => ?_) | refine cn rfl (fun hc9 => ?_) (fun hc9 => ?_)   -- test 9
                    · refine sq ?_
                      refine rg ?_
                      refine mv (v := .int .i64 _) rfl rfl ?_
                      refine mul rfl rfl (by first | exact w_i64 (by omega) | exact w_i64 (rng_i64 _) | rfl) rfl ?_
                      refine mv (v := .int .u8 _) rfl rfl ?_
                      refine cvi rfl rfl Try.underlying3 (by first | exact w_i64 (by omega) | exact w_i64 (rng_i64 _) | rfl) rfl ?_
                      refine add rfl rfl (by first | exact w_i64 (by omega) | exact w_i64 (rng_i64 _) | rfl) rfl ?_
                      refine asg (v := .int .i64 _) rfl rfl ?_
                      refine nl ?_
                      refine then_n ?_
                      refine rt ?_
                      refine in_r ?_
                      refine then_r ?_
                      refine loop_r ?_
                      refine in_r ?_
                      refine in_r ?_
                      refine then_r ?_
                      refine loop_r ?_
                      refine in_r ?_
                      refine then_r ?_
                      refine fin_r ?_
                      refine ⟨congrArg (Value.int .i64) ?_, H.fr⟩
                      rw [hf, show 8 * i = 8 * i + 0 from rfl, hg, findF_hit (by omega) (by rw [bitAt_at (by omega)]; have q := tb_mask0 (bs.getD i 0) j (by omega); rw [ei] at hc9; exact q.1 (by omega))]
                      omega
                    · refine sk ?_
                      refine in_n ?_
                      refine then_n ?_
                      refine rg ?_
                      refine mv (v := .int .u8 _) rfl rfl ?_
                      refine add rfl rfl (by first | exact w_u8 (by omega) | exact w_u8 (rng_u8 _) | exact m_u8 _) rfl ?_
                      refine asg (v := .int .u8 _) rfl rfl ?_
                      refine nl ?_
                      refine loop_n ?_
                      exact ⟨j + 1, (by (try dsimp only); omega), ⟨by omega, by rw [hg, findF_step (by omega) (by rw [bitAt_at (by omega)]; have q := tb_mask0 (bs.getD i 0) j (by omega); rw [ei] at hc9; cases hq : tb (bs.getD i 0) j with | true => decide | false => exact absurd (q.2 hq) hc9)]; rfl, H⟩, (fC (by first | rfl | exact congrArg (Value.int _) (by omega)) (fN _)), (by repeat (first | exact Agree.setL rfl Agree.mask | refine Agree.upd rfl ?_ | refine Agree.setL rfl ?_ | refine Agree.mask2 rfl ?_))⟩
                  · refine ex ?_
                    refine then_e ?_
                    refine loop_e ?_
                    refine in_hit rfl ?_
                    refine in_n ?_
                    refine then_n ?_
                    refine rg ?_
                    refine mv (v := .int .i64 _) rfl rfl ?_
                    refine add rfl rfl (by first | exact w_i64 (by omega) | exact w_i64 (rng_i64 _) | rfl) rfl ?_
                    refine asg (v := .int .i64 _) rfl rfl ?_
                    refine nl ?_
                    refine loop_n ?_
                    exact ⟨i + 1, (by (try dsimp only); omega), ⟨by omega, by rw [hf, show 8 * i = 8 * i + 0 from rfl, hg, show 8 * i + j = 8 * (i + 1) by omega], H⟩, (fC (by first | rfl | exact congrArg (Value.int _) (by omega)) (fN _)), (by repeat (first | exact Agree.setL rfl Agree.mask | refine Agree.upd rfl ?_ | refine Agree.setL rfl ?_ | refine Agree.mask2 rfl ?_))⟩
            · refine ex ?_
              refine then_e ?_
              refine loop_e ?_
              refine in_hit rfl ?_
              refine then_n ?_
              refine sq ?_
              refine rg ?_
              refine asg (v := .int .i64 _) rfl rfl ?_
              refine nl ?_
              refine then_n ?_
              refine rt ?_
              refine fin_r ?_
              refine ⟨congrArg (Value.int .i64) ?_, H.fr⟩
              rw [hf, findF_end (by omega)]
    · refine sk ?_
      refine then_n ?_
      refine sq ?_
      refine sq ?_
      refine rg ?_
      refine mv (v := .int .i64 _) rfl rfl ?_
      refine add rfl rfl (by first | exact w_i64 (by omega) | exact w_i64 (rng_i64 _) | rfl) rfl ?_
      refine asg (v := .int .i64 _) rfl rfl ?_
      refine nl ?_
      refine then_n ?_
      refine bk ?_
      have hstart : findF bs false k = findF bs false (8 * (k / 8 + 1)) := by
        have q := findF_skip (bs := bs) (v := false) (i := k / 8) (by omega) (fun j hj => by rw [u8_of_int (b := bs.getD (k / 8) 0) (n := 255) (by rw [e0] at hc3; omega) (by decide)]; have := tb_ff ⟨j, hj⟩; simp at this; simp [this]) (8 - k % 8) (k % 8) (by omega)
        rw [← q]; congr 1; omega
      refine lpM (α := Nat) [4, 8, 10, 11, 54, 55, 56, 57, 58, 59, 60, 61, 62, 63, 64, 65, 66, 67, 68, 69, 70, 71, 72, 73, 74, 75, 76, 77, 78, 79, 80, 81, 82, 83, 84, 85] (fun i => [(10, .int .i64 (i : Int))]) (fun i w' => i ≤ m ∧ findF bs false k = findF bs false (8 * i) ∧ SH w [] w' [⟨bm, .cells [.slice (some ⟨bb, 0, none⟩) m m].toArray 91 (0, 0), false⟩, ⟨bb, .cells (Bs bs).toArray 5 (0, 0), false⟩]) (fun i => m - i) (k / 8 + 1) ?_ (fC (by first | rfl | exact congrArg (Value.int _) (by omega)) (fN _)) ?_   -- loop 4
      · exact ⟨by omega, hstart, H⟩
      · rintro i ρx w4 ⟨hi, hf, H⟩
        have ei : 0 + ((i : Int)).toNat * 1 = i := by omega
        refine sq ?_
        refine sq ?_
        refine rg ?_
        refine mv (v := .int .i64 _) rfl rfl ?_
        refine mv (v := .pointer _) rfl rfl ?_
        first | refine nc rfl rfl ?_ | refine nci rfl rfl ?_
        refine fa rfl fo91_0 rfl ?_
        first | refine ld H rfl sc23 rfl rfl ?_ | refine lc rfl (by assumption) sc23 rfl ?_
        refine lnS rfl Try.underlying23 rfl ?_
        refine lss rfl rfl rfl ?_
        refine nl ?_
        refine then_n ?_
        first | refine cd rfl (fun hc10 => ?_) (fun hc10 => ?_) | refine cn rfl (fun hc10 => ?_) (fun hc10 => ?_)   -- test 10
        · refine sk ?_
          refine then_n ?_
          refine sq ?_
          refine bk ?_
          refine sq ?_
          refine rg ?_
          refine mv (v := .pointer _) rfl rfl ?_
          first | refine nc rfl rfl ?_ | refine nci rfl rfl ?_
          refine fa rfl fo91_0 rfl ?_
          first | refine ld H rfl sc23 rfl rfl ?_ | refine lc rfl (by assumption) sc23 rfl ?_
          refine mv (v := .int .i64 _) rfl rfl ?_
          first | refine ia rfl rfl Try.underlying23 sz5_1 (by omega) rfl ?_ | refine iA rfl rfl Try.underlying23 sz5_1 (by omega) rfl ?_
          first | (refine ldb H rfl sc5 (by omega) rfl ?_; intro hu3) | refine ld H rfl sc5 rfl rfl ?_ | refine lc rfl (by assumption) sc5 rfl ?_
          refine asg (v := .int .u8 _) rfl rfl ?_
          refine nl ?_
          refine then_n ?_
          refine sq ?_
          refine sq ?_
          refine rg ?_
          refine mv (v := .int .u8 _) rfl rfl ?_
          refine eql rfl rfl rfl ?_
          refine nl ?_
          refine then_n ?_
          first | refine cd rfl (fun hc11 => ?_) (fun hc11 => ?_) | refine cn rfl (fun hc11 => ?_) (fun hc11 => ?_)   -- test 11
          · refine ex ?_
            refine then_e ?_
            refine in_hit rfl ?_
            refine then_n ?_
            refine rg ?_
            refine mv (v := .int .i64 _) rfl rfl ?_
            refine add rfl rfl (by first | exact w_i64 (by omega) | exact w_i64 (rng_i64 _) | rfl) rfl ?_
            refine asg (v := .int .i64 _) rfl rfl ?_
            refine nl ?_
            refine loop_n ?_
            exact ⟨i + 1, (by (try dsimp only); omega), ⟨by omega, by rw [hf, findF_byte (c := 255) (by omega) (u8_of_int (n := 255) (by rw [ei] at hc11; omega) (by decide)) (fun j => by simp [tb_ff j])], H⟩, (fC (by first | rfl | exact congrArg (Value.int _) (by omega)) (fN _)), (by repeat (first | exact Agree.setL rfl Agree.mask | refine Agree.upd rfl ?_ | refine Agree.setL rfl ?_ | refine Agree.mask2 rfl ?_))⟩
          · refine sk ?_
            refine then_n ?_
            refine sq ?_
            refine rg ?_
            refine asg (v := .int .u8 _) rfl rfl ?_
            refine nl ?_
            refine then_n ?_
            refine bk ?_
            refine lpM (α := Nat) [4, 11, 72, 73, 74, 75, 76, 77, 78, 79, 80, 81, 82, 83, 84, 85] (fun j => [(11, .int .u8 (j : Int))]) (fun j w' => j ≤ 8 ∧ findF bs false (8 * i + 0) = findF bs false (8 * i + j) ∧ SH w [] w' [⟨bm, .cells [.slice (some ⟨bb, 0, none⟩) m m].toArray 91 (0, 0), false⟩, ⟨bb, .cells (Bs bs).toArray 5 (0, 0), false⟩]) (fun j => 8 - j) 0 ?_ (fC (by first | rfl | exact congrArg (Value.int _) (by omega)) (fN _)) ?_   -- loop 5
            · exact ⟨by omega, rfl, H⟩
            · rintro j ρx w5 ⟨hj, hg, H⟩
              refine sq ?_
              refine sq ?_
              refine rg ?_
              refine mv (v := .int .u8 _) rfl rfl ?_
              refine lss rfl rfl rfl ?_
              refine nl ?_
              refine then_n ?_
              first | refine cd rfl (fun hc12 => ?_) (fun hc12 => ?_) | refine cn rfl (fun hc12 => ?_) (fun hc12 => ?_)   -- test 12
              · refine sk ?_
                refine then_n ?_
                refine sq ?_
                refine bk ?_
                refine sq ?_
                refine rg ?_
                refine mv (v := .int .u8 _) rfl rfl ?_
                refine mv (v := .int .u8 _) rfl rfl ?_
                refine shl (c := mask8 j) rfl rfl (by omega) (mask8_eq' j) rfl ?_
                refine band rfl rfl rfl rfl ?_
                refine eql rfl rfl rfl ?_
                refine nl ?_
                refine then_n ?_
                first | refine cd rfl (fun hc13 => ?_) (fun hc13 => ?_) | refine cn rfl (fun hc13 => ?_) (fun hc13 => ?_)   -- test 13
                · refine sq ?_
                  refine rg ?_
                  refine mv (v := .int .i64 _) rfl rfl ?_
                  refine mul rfl rfl (by first | exact w_i64 (by omega) | exact w_i64 (rng_i64 _) | rfl) rfl ?_
                  refine mv (v := .int .u8 _) rfl rfl ?_
                  refine cvi rfl rfl Try.underlying3 (by first | exact w_i64 (by omega) | exact w_i64 (rng_i64 _) | rfl) rfl ?_
                  refine add rfl rfl (by first | exact w_i64 (by omega) | exact w_i64 (rng_i64 _) | rfl) rfl ?_
                  refine asg (v := .int .i64 _) rfl rfl ?_
                  refine nl ?_
                  refine then_n ?_
                  refine rt ?_
                  refine in_r ?_
                  refine then_r ?_
                  refine loop_r ?_
                  refine in_r ?_
                  refine in_r ?_
                  refine then_r ?_
                  refine loop_r ?_
                  refine in_r ?_
                  refine then_r ?_
                  refine fin_r ?_
                  refine ⟨congrArg (Value.int .i64) ?_, H.fr⟩
                  rw [hf, show 8 * i = 8 * i + 0 from rfl, hg, findF_hit (by omega) (by rw [bitAt_at (by omega)]; have q := tb_mask0 (bs.getD i 0) j (by omega); rw [ei] at hc13; exact q.1 (by omega))]
                  omega
                · refine sk ?_
                  refine in_n ?_
                  refine then_n ?_
                  refine rg ?_
                  refine mv (v := .int .u8 _) rfl rfl ?_
                  refine add rfl rfl (by first | exact w_u8 (by omega) | exact w_u8 (rng_u8 _) | exact m_u8 _) rfl ?_
                  refine asg (v := .int .u8 _) rfl rfl ?_
                  refine nl ?_
                  refine loop_n ?_
                  exact ⟨j + 1, (by (try dsimp only); omega), ⟨by omega, by rw [hg, findF_step (by omega) (by rw [bitAt_at (by omega)]; have q := tb_mask0 (bs.getD i 0) j (by omega); rw [ei] at hc13; cases hq : tb (bs.getD i 0) j with | true => decide | false => exact absurd (q.2 hq) hc13)]; rfl, H⟩, (fC (by first | rfl | exact congrArg (Value.int _) (by omega)) (fN _)), (by repeat (first | exact Agree.setL rfl Agree.mask | refine Agree.upd rfl ?_ | refine Agree.setL rfl ?_ | refine Agree.mask2 rfl ?_))⟩
              · refine ex ?_
                refine then_e ?_
                refine loop_e ?_
                refine in_hit rfl ?_
                refine in_n ?_
                refine then_n ?_
                refine rg ?_
                refine mv (v := .int .i64 _) rfl rfl ?_
                refine add rfl rfl (by first | exact w_i64 (by omega) | exact w_i64 (rng_i64 _) | rfl) rfl ?_
                refine asg (v := .int .i64 _) rfl rfl ?_
                refine nl ?_
                refine loop_n ?_
                exact ⟨i + 1, (by (try dsimp only); omega), ⟨by omega, by rw [hf, show 8 * i = 8 * i + 0 from rfl, hg, show 8 * i + j = 8 * (i + 1) by omega], H⟩, (fC (by first | rfl | exact congrArg (Value.int _) (by omega)) (fN _)), (by repeat (first | exact Agree.setL rfl Agree.mask | refine Agree.upd rfl ?_ | refine Agree.setL rfl ?_ | refine Agree.mask2 rfl ?_))⟩
        · refine ex ?_
          refine then_e ?_
          refine loop_e ?_
          refine in_hit rfl ?_
          refine then_n ?_
          refine sq ?_
          refine rg ?_
          refine asg (v := .int .i64 _) rfl rfl ?_
          refine nl ?_
          refine then_n ?_
          refine rt ?_
          refine fin_r ?_
          refine ⟨congrArg (Value.int .i64) ?_, H.fr⟩
          rw [hf, findF_end (by omega)]

set_option maxRecDepth 100000 in
theorem c_bitFind (w : World) (bs : List UInt8) (k : Nat) (c : Bool) (hl : bs.length ≤ 1000000000) (hk : k ≤ 1000000000) : Calls Try.prog 33 #[.string (str bs), .int .i64 (k : Int), .bool c] w (Ret fun v w' => v = .int .i64 (findF bs c k) ∧ Fr [] w w') := by
  refine enter (fun ρ => ρ 6) Try.func33 rfl rfl rfl (res1 rfl) ?_
  have H := SH.nil w
  have hsz := size_str bs
  refine sq ?_
  refine rg ?_
  refine asg (v := .int .i64 _) rfl rfl ?_
  refine nl ?_
  refine then_n ?_
  refine sq ?_
  refine sq ?_
  refine rg ?_
  refine mv (v := .int .i64 _) rfl rfl ?_
  refine max2 (b := 0) rfl rfl rfl ?_
  refine asg (v := .int .i64 _) rfl rfl ?_
  refine nl ?_
  refine then_n ?_
  refine bk ?_
  refine lpM (α := Nat) [6, 7, 10, 11, 12, 13, 14, 15, 16, 17, 18, 19, 20, 21, 22] (fun i => [(7, .int .i64 (i : Int))]) (fun i w' => (i ≤ 8 * bs.length ∨ i = k) ∧ findF bs c k = findF bs c i ∧ SH w [] w' []) (fun i => 8 * bs.length - i) k ?_ (fC (by first | rfl | exact congrArg (Value.int _) (by omega)) (fN _)) ?_   -- loop 1
  · exact ⟨.inr rfl, rfl, H⟩
  · rintro i ρx w1 ⟨hi, hf, H⟩
    refine sq ?_
    refine sq ?_
    refine rg ?_
    refine mv (v := .int .i64 _) rfl rfl ?_
    refine mv (v := .string _) rfl rfl ?_
    refine lnT rfl Try.underlying9 rfl ?_
    refine mul rfl rfl (by first | exact w_i64 (by omega) | exact w_i64 (rng_i64 _) | rfl) rfl ?_
    refine lss rfl rfl rfl ?_
    refine nl ?_
    refine then_n ?_
    first | refine cd rfl (fun hc1 => ?_) (fun hc1 => ?_) | refine cn rfl (fun hc1 => ?_) (fun hc1 => ?_)   -- test 1
    · refine sk ?_
      refine then_n ?_
      refine sq ?_
      refine bk ?_
      refine sq ?_
      refine rg ?_
      refine mv (v := .string _) rfl rfl ?_
      refine mv (v := .int .i64 _) rfl rfl ?_
      refine cl ca22 (c_bitAt _ _ _ (by omega) (by omega)) rfl ?_
      rintro _ w2 ⟨rfl, F⟩
      replace H := H.keep F; clear F
      refine mv (v := .bool _) rfl rfl ?_
      refine eqlB rfl rfl Try.underlying4 rfl ?_
      refine nl ?_
      refine then_n ?_
      first | refine cd rfl (fun hc2 => ?_) (fun hc2 => ?_) | refine cn rfl (fun hc2 => ?_) (fun hc2 => ?_)   -- test 2
      · refine sq ?_
        refine rg ?_
        refine mv (v := .int .i64 _) rfl rfl ?_
        refine asg (v := .int .i64 _) rfl rfl ?_
        refine nl ?_
        refine then_n ?_
        refine rt ?_
        refine in_r ?_
        refine then_r ?_
        refine loop_r ?_
        refine in_r ?_
        refine then_r ?_
        refine fin_r ?_
        exact ⟨congrArg (Value.int .i64) (by rw [hf, findF_hit (by omega) hc2]), H.fr⟩
      · refine sk ?_
        refine in_n ?_
        refine then_n ?_
        refine rg ?_
        refine mv (v := .int .i64 _) rfl rfl ?_
        refine add rfl rfl (by first | exact w_i64 (by omega) | exact w_i64 (rng_i64 _) | rfl) rfl ?_
        refine asg (v := .int .i64 _) rfl rfl ?_
        refine nl ?_
        refine loop_n ?_
        exact ⟨i + 1, (by (try dsimp only); omega), ⟨by omega, by rw [hf, findF_step (by omega) hc2], H⟩, (fC (by first | rfl | exact congrArg (Value.int _) (by omega)) (fN _)), (by repeat (first | exact Agree.setL rfl Agree.mask | refine Agree.upd rfl ?_ | refine Agree.setL rfl ?_ | refine Agree.mask2 rfl ?_))⟩
    · refine ex ?_
      refine then_e ?_
      refine loop_e ?_
      refine in_hit rfl ?_
      refine then_n ?_
      refine sq ?_
      refine rg ?_
      refine asg (v := .int .i64 _) rfl rfl ?_
      refine nl ?_
      refine then_n ?_
      refine rt ?_
      refine fin_r ?_
      exact ⟨congrArg (Value.int .i64) (by rw [hf, findF_end (by omega)]), H.fr⟩

set_option maxRecDepth 100000 in
theorem c_BitFree (w : World) (bs : List UInt8) (k : Nat) (hl : bs.length ≤ 1000000000) (hk : k ≤ 1000000000) : Calls Try.prog 32 #[.string (str bs), .int .i64 (k : Int)] w (Ret fun v w' => v = .int .i64 (findF bs false k) ∧ Fr [] w w') := by
  refine enter (fun ρ => ρ 4) Try.func32 rfl rfl rfl (res1 rfl) ?_
  have H := SH.nil w
  refine sq ?_
  refine rg ?_
  refine asg (v := .int .i64 _) rfl rfl ?_
  refine nl ?_
  refine then_n ?_
  refine sq ?_
  refine rg ?_
  refine mv (v := .string _) rfl rfl ?_
  refine cvSB H rfl Try.underlying9 Try.underlying23 Try.underlying5 rfl ?_
  clear H; intro b1 cp1 w1 hb1 hcp1 H _
  refine cl ca40 (c_fromBytes _ _ _ _ _ (by first | exact RB.pre H | exact RB.all H | assumption) (by omega)) rfl ?_
  rintro _ w2 ⟨bm2, bb2, rfl, hbm, hbb, hne, h4, h5, F⟩
  replace H := H.new2 F hbm hbb hne h4 h5; clear F h4 h5
  refine mv (v := .int .i64 _) rfl rfl ?_
  refine cl ca47 (c_firstFree _ _ _ _ _ (by first | assumption | rfl) H.look H.look (by omega) _ (by omega)) rfl ?_
  rintro _ w3 ⟨rfl, F⟩
  replace H := H.keep F; clear F
  refine asg (v := .int .i64 _) rfl rfl ?_
  refine nl ?_
  refine then_n ?_
  refine rt ?_
  refine fin_r ?_
  exact ⟨rfl, H.fr⟩

set_option maxRecDepth 100000 in
theorem c_BitFirst (w : World) (bs : List UInt8) (hl : bs.length ≤ 1000000000) : Calls Try.prog 34 #[.string (str bs)] w (Ret fun v w' => v = .int .i64 (findF bs true 0) ∧ Fr [] w w') := by
  refine enter (fun ρ => ρ 2) Try.func34 rfl rfl rfl (res1 rfl) ?_
  have H := SH.nil w
  refine sq ?_
  refine rg ?_
  refine asg (v := .int .i64 _) rfl rfl ?_
  refine nl ?_
  refine then_n ?_
  refine sq ?_
  refine rg ?_
  refine mv (v := .string _) rfl rfl ?_
  refine cvSB H rfl Try.underlying9 Try.underlying23 Try.underlying5 rfl ?_
  clear H; intro b1 cp1 w1 hb1 hcp1 H _
  refine cl ca40 (c_fromBytes _ _ _ _ _ (by first | exact RB.pre H | exact RB.all H | assumption) (by omega)) rfl ?_
  rintro _ w2 ⟨bm2, bb2, rfl, hbm, hbb, hne, h4, h5, F⟩
  replace H := H.new2 F hbm hbb hne h4 h5; clear F h4 h5
  refine cl ca48 (c_firstSet _ _ _ _ _ (by first | assumption | rfl) H.look H.look (by omega)) rfl ?_
  rintro _ w3 ⟨rfl, F⟩
  replace H := H.keep F; clear F
  refine asg (v := .int .i64 _) rfl rfl ?_
  refine nl ?_
  refine then_n ?_
  refine rt ?_
  refine fin_r ?_
  exact ⟨rfl, H.fr⟩

set_option maxRecDepth 100000 in
theorem c_FnBitFind (w : World) (bs : List UInt8) (k : Nat) (hk : k ≤ 65535) (hl : bs.length ≤ 9223372036854775807) : Calls Try.prog 12 #[.string (str bs), .int .u16 (k : Int)] w (Ret fun v w' => v = .bool true ∧ Fr [] w w') := by
  refine enter (fun ρ => ρ 4) Try.func12 rfl rfl rfl (res1 rfl) ?_
  have H := SH.nil w
  have hsz := size_str bs
  have hlt : (bs.take 100).length ≤ 100 := by simp; omega
  have hsz2 := size_str (bs.take 100)
  refine sq ?_
  refine rg ?_
  refine asg (v := .bool _) rfl rfl ?_
  refine nl ?_
  refine then_n ?_
  refine sq ?_
  refine sq ?_
  refine rg ?_
  refine mv (v := .string _) rfl rfl ?_
  refine lnT rfl Try.underlying9 rfl ?_
  refine gtr rfl rfl rfl ?_
  refine nl ?_
  refine then_n ?_
  first | refine cd rfl (fun hc1 => ?_) (fun hc1 => ?_) | refine cn rfl (fun hc1 => ?_) (fun hc1 => ?_)   -- test 1
  · refine sq ?_
    refine rg ?_
    refine asg (v := .bool _) rfl rfl ?_
    refine nl ?_
    refine then_n ?_
    refine rt ?_
    refine then_r ?_
    refine fin_r ?_
    exact ⟨rfl, H.fr⟩
  · refine sk ?_
    refine then_n ?_
    refine sq ?_
    refine rg ?_
    refine mv (v := .string _) rfl rfl ?_
    refine cl ca20 (c_someBits _ _ (by omega)) rfl ?_
    rintro _ w1 ⟨rfl, F⟩
    replace H := H.keep F; clear F
    refine asg (v := .string _) rfl rfl ?_
    refine nl ?_
    refine then_n ?_
    refine sq ?_
    refine rg ?_
    refine mv (v := .string _) rfl rfl ?_
    refine mv (v := .int .u16 _) rfl rfl ?_
    refine cvi rfl rfl Try.underlying3 (by first | exact w_i64 (by omega) | exact w_i64 (rng_i64 _) | rfl) rfl ?_
    refine cl ca32 (c_BitFree _ _ _ (by omega) (by omega)) rfl ?_
    rintro _ w2 ⟨rfl, F⟩
    replace H := H.keep F; clear F
    refine mv (v := .string _) rfl rfl ?_
    refine mv (v := .int .u16 _) rfl rfl ?_
    refine cvi rfl rfl Try.underlying3 (by first | exact w_i64 (by omega) | exact w_i64 (rng_i64 _) | rfl) rfl ?_
    refine cl ca33 (c_bitFind _ _ _ _ (by omega) (by omega)) rfl ?_
    rintro _ w3 ⟨rfl, F⟩
    replace H := H.keep F; clear F
    refine eql rfl rfl rfl ?_
    refine mv (v := .bool _) rfl rfl ?_
    first | refine spL (t := 20) (b := true) rfl ?_ | refine spT (t := 20) rfl rfl ?_   -- guard 1
    refine gy rfl ?_
    refine mv (v := .string _) rfl rfl ?_
    refine gy rfl ?_
    refine cl ca34 (c_BitFirst _ _ (by omega)) rfl ?_
    rintro _ w4 ⟨rfl, F⟩
    replace H := H.keep F; clear F
    refine gy rfl ?_
    refine mv (v := .string _) rfl rfl ?_
    refine gy rfl ?_
    refine cl ca33 (c_bitFind _ _ 0 _ (by omega) (by omega)) rfl ?_
    rintro _ w5 ⟨rfl, F⟩
    replace H := H.keep F; clear F
    refine gy rfl ?_
    refine eql rfl rfl rfl ?_
    refine pkT (v := .bool _) rfl rfl rfl ?_
    refine mv (v := .bool _) rfl rfl ?_
    first | refine spL (t := 27) (b := true) rfl ?_ | refine spT (t := 27) rfl rfl ?_   -- guard 2
    refine gy rfl ?_
    refine cl ca34 (c_BitFirst _ [0, 1] (by decide)) rfl ?_
    rintro _ w6 ⟨rfl, F⟩
    replace H := H.keep F; clear F
    refine gy rfl ?_
    refine eql rfl rfl rfl ?_
    refine pkT (v := .bool _) rfl rfl rfl ?_
    refine asg (v := .bool _) rfl rfl ?_
    refine nl ?_
    refine then_n ?_
    refine rt ?_
    refine fin_r ?_
    exact ⟨congrArg Value.bool (decide_eq_true (by decide +kernel)), H.fr⟩

theorem bitFindAt (w : World) (bs : List UInt8) (n : Int) (hn : 0 ≤ n ∧ n ≤ 65535) (hl : bs.length ≤ 9223372036854775807) : Calls Try.prog 12 #[.string (str bs), .int .u16 n] w (Ret fun v w' => v = .bool true ∧ Fr [] w w') := by
  obtain ⟨k, rfl⟩ := Int.eq_ofNat_of_zero_le hn.1
  exact c_FnBitFind w bs k (by omega) hl

end Go.Proofs.Ytbldfojecpljoaa.X
