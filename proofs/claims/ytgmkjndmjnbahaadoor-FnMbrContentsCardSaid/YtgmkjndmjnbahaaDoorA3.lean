/- Walks of functions, printed by a program of this claim. -/
import Derived.Test.YtgmkjndmjnbahaaDoorA2
import Derived.Test.YtgmkjndmjnbahaaDoorLePure
import Derived.Test.YtgmkjndmjnbahaaDoorStrSteps
namespace Go.Proofs.YtgmkjndmjnbahaaDoor.X
set_option linter.unusedVariables false
set_option linter.unusedSimpArgs false
open Go Go.RowKit

namespace A3
theorem sc5 : scalarB Tryd.prog 5 = true := by kernel_rfl
theorem sz5_1 : sizeB Tryd.prog 5 1 = true := by kernel_rfl

end A3
open A3

set_option maxRecDepth 100000 in
set_option maxHeartbeats 1000000 in
theorem c_uint32 (w : World) (b o n c : Nat) (T : TypeId) (fr : Nat × Nat) (cur : List UInt8) (hb : w.heap[b]? = some (.cells (Bs cur).toArray T fr)) (hn : 4 ≤ n) (ho : o + 4 ≤ cur.length) : Calls Tryd.prog 29 #[.agg #[], .slice (some ⟨b, o, none⟩) n c] w (Ret fun v w' => v = .int .u32 (leV ((cur.drop o).take 4)) ∧ Fr [] w w') := by
  refine enter (fun ρ => ρ 4) Tryd.func29 rfl rfl rfl (res1 rfl) ?_
  have H := SH.ro1 hb
  refine sq ?_
  refine rg ?_
  refine bx (v := .agg _) H rfl rfl rfl ?_
  clear H; intro b1 w1 hb1 H _
  refine asg (v := .int .u32 _) rfl rfl ?_
  refine nl ?_
  refine then_n ?_
  refine sq ?_
  refine rg ?_
  refine mv (v := .slice _ _ _) rfl rfl ?_
  first | refine ia rfl rfl Tryd.underlying23 sz5_1 (by omega) rfl ?_ | refine iA rfl rfl Tryd.underlying23 sz5_1 (by omega) rfl ?_
  first | (refine ldb H rfl sc5 (by omega) rfl ?_; intro hu1) | refine ld H rfl sc5 rfl rfl ?_ | refine lc rfl (by first | assumption | exact H.fr.cell (by assumption) (by simp)) sc5 rfl ?_
  refine nl ?_
  refine then_n ?_
  refine sq ?_
  refine dr (by kernel_rfl) ?_   -- region 2
  have H := H.drew
  refine holdH H [] ?_
  refine tk (i := 0) rfl (by kernel_rfl) rfl H (fun w' H => r_mv (v := .slice _ _ _) rfl) ?_
  first | refine tk (i := 1) rfl (by kernel_rfl) rfl H (fun w' H => r_ia rfl rfl Tryd.underlying23 sz5_1 (by omega)) ?_ | refine tk (i := 1) rfl (by kernel_rfl) rfl H (fun w' H => r_iA rfl rfl Tryd.underlying23 sz5_1 (by omega)) ?_
  first | refine tk (i := 2) rfl (by kernel_rfl) rfl H (fun w' H => r_ldb H rfl sc5 (by omega)) ?_ | refine tk (i := 2) rfl (by kernel_rfl) rfl H (fun w' H => r_ld H rfl sc5 rfl) ?_ | refine tk (i := 2) rfl (by kernel_rfl) rfl H (fun w' H => r_lc rfl (by first | assumption | exact H.fr.cell (by assumption) (by simp)) sc5) ?_
  refine tk (i := 3) rfl (by kernel_rfl) rfl H (fun w' H => r_cvi rfl rfl Tryd.underlying25 (by first | exact w_u32 (by omega) | exact w_u32 (rng_u32 _) | exact m_u32 _)) ?_
  refine tk (i := 4) rfl (by kernel_rfl) rfl H (fun w' H => r_mv (v := .slice _ _ _) rfl) ?_
  first | refine tk (i := 5) rfl (by kernel_rfl) rfl H (fun w' H => r_ia rfl rfl Tryd.underlying23 sz5_1 (by omega)) ?_ | refine tk (i := 5) rfl (by kernel_rfl) rfl H (fun w' H => r_iA rfl rfl Tryd.underlying23 sz5_1 (by omega)) ?_
  first | refine tk (i := 6) rfl (by kernel_rfl) rfl H (fun w' H => r_ldb H rfl sc5 (by omega)) ?_ | refine tk (i := 6) rfl (by kernel_rfl) rfl H (fun w' H => r_ld H rfl sc5 rfl) ?_ | refine tk (i := 6) rfl (by kernel_rfl) rfl H (fun w' H => r_lc rfl (by first | assumption | exact H.fr.cell (by assumption) (by simp)) sc5) ?_
  refine tk (i := 7) rfl (by kernel_rfl) rfl H (fun w' H => r_cvi rfl rfl Tryd.underlying25 (by first | exact w_u32 (by omega) | exact w_u32 (rng_u32 _) | exact m_u32 _)) ?_
  refine tk (i := 8) rfl (by kernel_rfl) rfl H (fun w' H => r_shlK (s := 8) (p := 256) rfl rfl (by decide) (by decide) (by first | exact w_u32 (by omega) | exact w_u32 (rng_u32 _) | exact m_u32 _)) ?_
  refine tk (i := 9) rfl (by kernel_rfl) rfl H (fun w' H => r_bor rfl rfl rfl) ?_
  refine tk (i := 10) rfl (by kernel_rfl) rfl H (fun w' H => r_mv (v := .slice _ _ _) rfl) ?_
  first | refine tk (i := 11) rfl (by kernel_rfl) rfl H (fun w' H => r_ia rfl rfl Tryd.underlying23 sz5_1 (by omega)) ?_ | refine tk (i := 11) rfl (by kernel_rfl) rfl H (fun w' H => r_iA rfl rfl Tryd.underlying23 sz5_1 (by omega)) ?_
  first | refine tk (i := 12) rfl (by kernel_rfl) rfl H (fun w' H => r_ldb H rfl sc5 (by omega)) ?_ | refine tk (i := 12) rfl (by kernel_rfl) rfl H (fun w' H => r_ld H rfl sc5 rfl) ?_ | refine tk (i := 12) rfl (by kernel_rfl) rfl H (fun w' H => r_lc rfl (by first | assumption | exact H.fr.cell (by assumption) (by simp)) sc5) ?_
  refine tk (i := 13) rfl (by kernel_rfl) rfl H (fun w' H => r_cvi rfl rfl Tryd.underlying25 (by first | exact w_u32 (by omega) | exact w_u32 (rng_u32 _) | exact m_u32 _)) ?_
  refine tk (i := 14) rfl (by kernel_rfl) rfl H (fun w' H => r_shlK (s := 16) (p := 65536) rfl rfl (by decide) (by decide) (by first | exact w_u32 (by omega) | exact w_u32 (rng_u32 _) | exact m_u32 _)) ?_
  refine tk (i := 15) rfl (by kernel_rfl) rfl H (fun w' H => r_bor rfl rfl rfl) ?_
  refine tk (i := 16) rfl (by kernel_rfl) rfl H (fun w' H => r_mv (v := .slice _ _ _) rfl) ?_
  first | refine tk (i := 17) rfl (by kernel_rfl) rfl H (fun w' H => r_ia rfl rfl Tryd.underlying23 sz5_1 (by omega)) ?_ | refine tk (i := 17) rfl (by kernel_rfl) rfl H (fun w' H => r_iA rfl rfl Tryd.underlying23 sz5_1 (by omega)) ?_
  first | refine tk (i := 18) rfl (by kernel_rfl) rfl H (fun w' H => r_ldb H rfl sc5 (by omega)) ?_ | refine tk (i := 18) rfl (by kernel_rfl) rfl H (fun w' H => r_ld H rfl sc5 rfl) ?_ | refine tk (i := 18) rfl (by kernel_rfl) rfl H (fun w' H => r_lc rfl (by first | assumption | exact H.fr.cell (by assumption) (by simp)) sc5) ?_
  refine tk (i := 19) rfl (by kernel_rfl) rfl H (fun w' H => r_cvi rfl rfl Tryd.underlying25 (by first | exact w_u32 (by omega) | exact w_u32 (rng_u32 _) | exact m_u32 _)) ?_
  refine tk (i := 20) rfl (by kernel_rfl) rfl H (fun w' H => r_shlK (s := 24) (p := 16777216) rfl rfl (by decide) (by decide) (by first | exact w_u32 (by omega) | exact w_u32 (rng_u32 _) | exact m_u32 _)) ?_
  refine tk (i := 21) rfl (by kernel_rfl) rfl H (fun w' H => r_bor rfl rfl rfl) ?_
  refine tk (i := 22) rfl (by kernel_rfl) rfl H (fun w' H => r_asg (v := .int .u32 _) rfl) ?_
  refine da (by kernel_rfl) ?_
  refine then_n ?_
  refine rt ?_
  refine fin_r ?_
  refine ⟨congrArg (Value.int .u32) ?_, H.fr⟩
  have e : (cur.drop o).take 4 = [cur.getD o 0, cur.getD (o + 1) 0, cur.getD (o + 2) 0, cur.getD (o + 3) 0] := four_at ho
  have m1 : ((cur.getD (o + 1) 0).toNat : Int) * 256 % 4294967296 = ((cur.getD (o + 1) 0).toNat : Int) * 256 := by have := (cur.getD (o + 1) 0).toNat_lt; omega
  have m2 : ((cur.getD (o + 2) 0).toNat : Int) * 65536 % 4294967296 = ((cur.getD (o + 2) 0).toNat : Int) * 65536 := by have := (cur.getD (o + 2) 0).toNat_lt; omega
  rw [e, ← le32_eq, ← m1, ← m2]
  rfl

set_option maxRecDepth 100000 in
set_option maxHeartbeats 1000000 in
theorem c_zzHex (w : World) (x : Int) (n : Nat) (hx : 0 ≤ x ∧ x ≤ 4294967295) (hn : n ≤ 8) : Calls Tryd.prog 28 #[.int .u32 x, .int .i64 (n : Int)] w (Ret fun v w' => (∃ s, v = .string (str s) ∧ s.length ≤ 8) ∧ Fr [] w w') := by
  refine enter (fun ρ => ρ 4) Tryd.func28 rfl rfl rfl (res1 rfl) ?_
  have H := SH.nil w
  refine sq ?_
  refine rg ?_
  refine asg (v := .string _) rfl rfl ?_
  refine nl ?_
  refine then_n ?_
  refine sq ?_
  refine rg ?_
  refine asg (v := .string _) rfl rfl ?_
  refine nl ?_
  refine then_n ?_
  refine sq ?_
  refine bk ?_
  have hx2 : 0 ≤ x ∧ x < 4294967296 := by omega
  refine lpM (α := Int × List UInt8) [0, 5, 6, 7, 8, 9, 10, 11, 12, 13, 14, 15, 16, 17, 18, 19, 20, 21] (fun (z, s) => [(0, .int .u32 z), (5, .string (str s))]) (fun (z, s) w' => s.length ≤ 8 ∧ (0 ≤ z ∧ z < 16 ^ (8 - s.length)) ∧ SH w [] w' []) (fun (z, s) => 8 - s.length) (x, []) ?_ (fC (by first | rfl | exact congrArg (Value.int _) (by first | omega | assumption | (symm; assumption) | (simp; done) | (simp; omega)) | exact congrArg (fun n => Value.slice _ n _) (by first | omega | (simp; done) | (simp; omega))) (fC (by first | rfl | exact congrArg (Value.int _) (by first | omega | assumption | (symm; assumption) | (simp; done) | (simp; omega)) | exact congrArg (fun n => Value.slice _ n _) (by first | omega | (simp; done) | (simp; omega))) (fN _))) ?_   -- loop 1
  · exact ⟨by simp, by simpa using hx2, H⟩
  · rintro ⟨z, s⟩ ρx w1 ⟨hs, hz, H⟩
    have hzr : 0 ≤ z ∧ z ≤ 4294967295 := hex_rng hz hs
    have hszs := size_str s
    have hmk := mask_rng32 z 4 15 (by decide)
    have hix := hex_lt' hmk
    refine sq ?_
    refine sq ?_
    refine rg ?_
    refine mv (v := .int .u32 _) rfl rfl ?_
    refine gtr rfl rfl rfl ?_
    refine mv (v := .bool _) rfl rfl ?_
    first | refine spd (t := 8) rfl (fun hg1 => ?_) (fun hg1 => ?_) | refine sp (t := 8) rfl (fun hg1 => ?_) (fun hg1 => ?_)   -- guard 1
    · have hs8 := hex_pos hz hs hg1
      refine gn rfl rfl ?_
      refine gn rfl rfl ?_
      refine gn rfl rfl ?_
      refine gn rfl rfl ?_
      refine pkT (v := .bool _) rfl rfl rfl ?_
      refine nl ?_
      refine then_n ?_
      refine cbT rfl rfl ?_
      refine sk ?_
      refine then_n ?_
      refine bk ?_
      refine sq ?_
      refine rg ?_
      refine mv (v := .int .u32 _) rfl rfl ?_
      refine band rfl rfl rfl rfl ?_
      refine ixS (bs := hexL) rfl rfl Tryd.underlying9 (by rw [show hexL.length = 16 from rfl]; omega) rfl ?_; intro hu1
      refine cvIS rfl (by rfl) Tryd.underlying9 (by omega) rfl ?_
      refine mv (v := .string _) rfl rfl ?_
      refine catT rfl rfl (by first | omega | (simp; omega)) rfl ?_
      refine asg (v := .string _) rfl rfl ?_
      refine nl ?_
      refine then_n ?_
      refine rg ?_
      refine mv (v := .int .u32 _) rfl rfl ?_
      refine shrK (s := 4) (p := 16) rfl rfl (by decide) (by decide) rfl rfl ?_
      refine asg (v := .int .u32 _) rfl rfl ?_
      refine nl ?_
      refine in_n ?_
      refine loop_n ?_
      exact ⟨(z / 16, [_] ++ s), (by simp; omega), ⟨by simp; omega, hex_step hz (by omega), H⟩, (fC (by first | rfl | exact congrArg (Value.int _) (by first | omega | assumption | (symm; assumption) | (simp; done) | (simp; omega)) | exact congrArg (fun n => Value.slice _ n _) (by first | omega | (simp; done) | (simp; omega))) (fC (by first | rfl | exact congrArg (Value.int _) (by first | omega | assumption | (symm; assumption) | (simp; done) | (simp; omega)) | exact congrArg (fun n => Value.slice _ n _) (by first | omega | (simp; done) | (simp; omega))) (fN _))), (by repeat (first | exact Agree.setL rfl Agree.mask | exact Agree.self _ _ | refine Agree.upd rfl ?_ | refine Agree.setL rfl ?_ | refine Agree.mask2 rfl ?_))⟩
    · refine gy rfl ?_
      refine mv (v := .string _) rfl rfl ?_
      refine gy rfl ?_
      refine lnT rfl Tryd.underlying9 rfl ?_
      refine gy rfl ?_
      refine mv (v := .int .i64 _) rfl rfl ?_
      refine gy rfl ?_
      refine lss rfl rfl rfl ?_
      refine pkF (v := .bool _) rfl rfl rfl ?_
      refine nl ?_
      refine then_n ?_
      first | refine cd rfl (fun hc1 => ?_) (fun hc1 => ?_) | refine cn rfl (fun hc1 => ?_) (fun hc1 => ?_)   -- test 1
      · have hs8 : s.length < 8 := by omega
        refine sk ?_
        refine then_n ?_
        refine bk ?_
        refine sq ?_
        refine rg ?_
        refine mv (v := .int .u32 _) rfl rfl ?_
        refine band rfl rfl rfl rfl ?_
        refine ixS (bs := hexL) rfl rfl Tryd.underlying9 (by rw [show hexL.length = 16 from rfl]; omega) rfl ?_; intro hu1
        refine cvIS rfl (by rfl) Tryd.underlying9 (by omega) rfl ?_
        refine mv (v := .string _) rfl rfl ?_
        refine catT rfl rfl (by first | omega | (simp; omega)) rfl ?_
        refine asg (v := .string _) rfl rfl ?_
        refine nl ?_
        refine then_n ?_
        refine rg ?_
        refine mv (v := .int .u32 _) rfl rfl ?_
        refine shrK (s := 4) (p := 16) rfl rfl (by decide) (by decide) rfl rfl ?_
        refine asg (v := .int .u32 _) rfl rfl ?_
        refine nl ?_
        refine in_n ?_
        refine loop_n ?_
        exact ⟨(z / 16, [_] ++ s), (by simp; omega), ⟨by simp; omega, hex_step hz (by omega), H⟩, (fC (by first | rfl | exact congrArg (Value.int _) (by first | omega | assumption | (symm; assumption) | (simp; done) | (simp; omega)) | exact congrArg (fun n => Value.slice _ n _) (by first | omega | (simp; done) | (simp; omega))) (fC (by first | rfl | exact congrArg (Value.int _) (by first | omega | assumption | (symm; assumption) | (simp; done) | (simp; omega)) | exact congrArg (fun n => Value.slice _ n _) (by first | omega | (simp; done) | (simp; omega))) (fN _))), (by repeat (first | exact Agree.setL rfl Agree.mask | exact Agree.self _ _ | refine Agree.upd rfl ?_ | refine Agree.setL rfl ?_ | refine Agree.mask2 rfl ?_))⟩
      · refine ex ?_
        refine then_e ?_
        refine loop_e ?_
        refine in_hit rfl ?_
        refine then_n ?_
        refine sq ?_
        refine rg ?_
        refine mv (v := .string _) rfl rfl ?_
        refine asg (v := .string _) rfl rfl ?_
        refine nl ?_
        refine then_n ?_
        refine rt ?_
        refine fin_r ?_
        exact ⟨⟨_, rfl, by assumption⟩, H.fr⟩

end Go.Proofs.YtgmkjndmjnbahaaDoor.X
