/- Walks of functions, printed by a program of this claim. -/
import Derived.Test.YtgmkjndmjnbahaaDoorA3
namespace Go.Proofs.YtgmkjndmjnbahaaDoor.X
set_option linter.unusedVariables false
set_option linter.unusedSimpArgs false
open Go Go.RowKit

namespace A4
theorem ca28 : callable Tryd.prog 28 = true := by kernel_rfl
theorem sz21_1 : sizeB Tryd.prog 21 1 = true := by kernel_rfl

end A4
open A4

set_option maxRecDepth 100000 in
set_option maxHeartbeats 1000000 in
theorem c_fmtUUID (w : World) (s : List UInt8) (k : Int) (hs : s.length ≤ 8) (hk : 0 ≤ k ∧ k ≤ 1000) : Calls Tryd.prog 27 #[.string (str s), .int .i64 k] w (Ret fun v w' => (∃ u, v = .string (str u)) ∧ Fr [] w w') := by
  refine enter (fun ρ => ρ 4) Tryd.func27 rfl rfl rfl (res1 rfl) ?_
  have H := SH.nil w
  have hro := rOf_le s
  refine sq ?_
  refine rg ?_
  refine asg (v := .string _) rfl rfl ?_
  refine nl ?_
  refine then_n ?_
  refine sq ?_
  refine dr (by kernel_rfl) ?_   -- region 1
  have H := H.drew
  refine holdH H [] ?_
  refine tk (i := 0) rfl (by kernel_rfl) rfl H (fun w' H => r_mv (v := .string _) rfl) ?_
  refine tk (i := 2) rfl (by kernel_rfl) rfl H (fun w' H => r_mv (v := .string _) rfl) ?_
  refine tk (i := 9) rfl (by kernel_rfl) rfl H (fun w' H => r_mv (v := .int .i64 _) rfl) ?_
  refine tk (i := 10) rfl (by kernel_rfl) rfl H (fun w' H => r_cvi rfl rfl Tryd.underlying25 (by first | exact w_u32 (by omega) | exact w_u32 (rng_u32 _) | exact m_u32 _)) ?_
  refine manyA (R := [1, 3, 11]) (by kernel_rfl) ?_ (by simp)
  simp only [List.forall_mem_cons]
  refine ⟨⟨_, rfl, rfl, ?_⟩, ⟨_, rfl, rfl, ?_⟩, ⟨_, rfl, rfl, ?_⟩, by simp⟩
  · refine cvSR H rfl Tryd.underlying9 Tryd.underlying107 Tryd.underlying21 (by omega) rfl ?_
    clear H; intro b1 cp1 w1 hb1 hrc1 H _
    refine nl ?_
    refine then_n ?_
    refine ⟨H.drop, ?_⟩
    refine upH H ?_ (fun _ h => h.drop)
    refine manyA (R := [3, 11]) (by kernel_rfl) ?_ (by simp)
    simp only [List.forall_mem_cons]
    refine ⟨⟨_, rfl, rfl, ?_⟩, ⟨_, rfl, rfl, ?_⟩, by simp⟩
    · refine cvSR H rfl Tryd.underlying9 Tryd.underlying107 Tryd.underlying21 (by omega) rfl ?_
      clear H; intro b2 cp2 w2 hb2 hrc2 H _
      refine nl ?_
      refine then_n ?_
      refine ⟨H.drop, ?_⟩
      refine upH H ?_ (fun _ h => h.drop)
      refine tk (i := 4) rfl (by kernel_rfl) rfl H (fun w' H => r_lnS rfl Tryd.underlying107) ?_
      refine tk (i := 5) rfl (by kernel_rfl) rfl H (fun w' H => r_min2 rfl rfl) ?_
      refine tk (i := 6) rfl (by kernel_rfl) rfl H (fun w' H => r_slh rfl rfl Tryd.underlying107 sz21_1 (by first | trivial | omega | (simp; omega))) ?_
      refine tk (i := 7) rfl (by kernel_rfl) rfl H (fun w' H => r_cvRS H rfl Tryd.underlying107 Tryd.underlying21 Tryd.underlying9 (by first | omega | (simp; omega))) ?_
      refine tk (i := 8) rfl (by kernel_rfl) rfl H (fun w' H => r_catT rfl rfl (Nat.le_trans (Nat.add_le_add_right (rBytes_le _ _) _) (by simp; omega))) ?_
      refine fk (i := 11) (by kernel_rfl) rfl rfl rfl ?_
      refine cl ca28 (c_zzHex _ _ _ (by omega) (by decide)) rfl ?_
      rintro _ w3 ⟨⟨sx, rfl, hsx⟩, F⟩
      replace H := H.keep F; clear F
      refine nl ?_
      refine then_n ?_
      refine ⟨H, ?_⟩
      refine tk (i := 12) rfl (by kernel_rfl) rfl H (fun w' H => r_catT rfl rfl (by rw [List.length_append]; exact Nat.le_trans (Nat.add_le_add_right (Nat.add_le_add_right (rBytes_le _ _) _) _) (by simp; omega))) ?_
      refine tk (i := 13) rfl (by kernel_rfl) rfl H (fun w' H => r_asg (v := .string _) rfl) ?_
      refine da (by kernel_rfl) ?_
      refine then_n ?_
      refine rt ?_
      refine fin_r ?_
      exact ⟨⟨_, rfl⟩, H.fr⟩
    · refine cl ca28 (c_zzHex _ _ _ (by omega) (by decide)) rfl ?_
      rintro _ w4 ⟨⟨sx, rfl, hsx⟩, F⟩
      replace H := H.keep F; clear F
      refine nl ?_
      refine then_n ?_
      refine ⟨H, ?_⟩
      refine fk (i := 3) (by kernel_rfl) rfl rfl rfl ?_
      refine cvSR H rfl Tryd.underlying9 Tryd.underlying107 Tryd.underlying21 (by omega) rfl ?_
      clear H; intro b3 cp3 w5 hb3 hrc3 H _
      refine nl ?_
      refine then_n ?_
      refine ⟨H.drop, ?_⟩
      refine upH H ?_ (fun _ h => h.drop)
      refine tk (i := 4) rfl (by kernel_rfl) rfl H (fun w' H => r_lnS rfl Tryd.underlying107) ?_
      refine tk (i := 5) rfl (by kernel_rfl) rfl H (fun w' H => r_min2 rfl rfl) ?_
      refine tk (i := 6) rfl (by kernel_rfl) rfl H (fun w' H => r_slh rfl rfl Tryd.underlying107 sz21_1 (by first | trivial | omega | (simp; omega))) ?_
      refine tk (i := 7) rfl (by kernel_rfl) rfl H (fun w' H => r_cvRS H rfl Tryd.underlying107 Tryd.underlying21 Tryd.underlying9 (by first | omega | (simp; omega))) ?_
      refine tk (i := 8) rfl (by kernel_rfl) rfl H (fun w' H => r_catT rfl rfl (Nat.le_trans (Nat.add_le_add_right (rBytes_le _ _) _) (by simp; omega))) ?_
      refine tk (i := 12) rfl (by kernel_rfl) rfl H (fun w' H => r_catT rfl rfl (by rw [List.length_append]; exact Nat.le_trans (Nat.add_le_add_right (Nat.add_le_add_right (rBytes_le _ _) _) _) (by simp; omega))) ?_
      refine tk (i := 13) rfl (by kernel_rfl) rfl H (fun w' H => r_asg (v := .string _) rfl) ?_
      refine da (by kernel_rfl) ?_
      refine then_n ?_
      refine rt ?_
      refine fin_r ?_
      exact ⟨⟨_, rfl⟩, H.fr⟩
  · refine cvSR H rfl Tryd.underlying9 Tryd.underlying107 Tryd.underlying21 (by omega) rfl ?_
    clear H; intro b4 cp4 w6 hb4 hrc4 H _
    refine nl ?_
    refine then_n ?_
    refine ⟨H.drop, ?_⟩
    refine upH H ?_ (fun _ h => h.drop)
    refine tk (i := 4) rfl (by kernel_rfl) rfl H (fun w' H => r_lnS rfl Tryd.underlying107) ?_
    refine tk (i := 5) rfl (by kernel_rfl) rfl H (fun w' H => r_min2 rfl rfl) ?_
    refine manyA (R := [1, 11]) (by kernel_rfl) ?_ (by simp)
    simp only [List.forall_mem_cons]
    refine ⟨⟨_, rfl, rfl, ?_⟩, ⟨_, rfl, rfl, ?_⟩, by simp⟩
    · refine cvSR H rfl Tryd.underlying9 Tryd.underlying107 Tryd.underlying21 (by omega) rfl ?_
      clear H; intro b5 cp5 w7 hb5 hrc5 H _
      refine nl ?_
      refine then_n ?_
      refine ⟨H.drop, ?_⟩
      refine upH H ?_ (fun _ h => h.drop)
      refine tk (i := 6) rfl (by kernel_rfl) rfl H (fun w' H => r_slh rfl rfl Tryd.underlying107 sz21_1 (by first | trivial | omega | (simp; omega))) ?_
      refine tk (i := 7) rfl (by kernel_rfl) rfl H (fun w' H => r_cvRS H rfl Tryd.underlying107 Tryd.underlying21 Tryd.underlying9 (by first | omega | (simp; omega))) ?_
      refine tk (i := 8) rfl (by kernel_rfl) rfl H (fun w' H => r_catT rfl rfl (Nat.le_trans (Nat.add_le_add_right (rBytes_le _ _) _) (by simp; omega))) ?_
      refine fk (i := 11) (by kernel_rfl) rfl rfl rfl ?_
      refine cl ca28 (c_zzHex _ _ _ (by omega) (by decide)) rfl ?_
      rintro _ w8 ⟨⟨sx, rfl, hsx⟩, F⟩
      replace H := H.keep F; clear F
      refine nl ?_
      refine then_n ?_
      refine ⟨H, ?_⟩
      refine tk (i := 12) rfl (by kernel_rfl) rfl H (fun w' H => r_catT rfl rfl (by rw [List.length_append]; exact Nat.le_trans (Nat.add_le_add_right (Nat.add_le_add_right (rBytes_le _ _) _) _) (by simp; omega))) ?_
      refine tk (i := 13) rfl (by kernel_rfl) rfl H (fun w' H => r_asg (v := .string _) rfl) ?_
      refine da (by kernel_rfl) ?_
      refine then_n ?_
      refine rt ?_
      refine fin_r ?_
      exact ⟨⟨_, rfl⟩, H.fr⟩
    · refine cl ca28 (c_zzHex _ _ _ (by omega) (by decide)) rfl ?_
      rintro _ w9 ⟨⟨sx, rfl, hsx⟩, F⟩
      replace H := H.keep F; clear F
      refine nl ?_
      refine then_n ?_
      refine ⟨H, ?_⟩
      refine fk (i := 1) (by kernel_rfl) rfl rfl rfl ?_
      refine cvSR H rfl Tryd.underlying9 Tryd.underlying107 Tryd.underlying21 (by omega) rfl ?_
      clear H; intro b6 cp6 w10 hb6 hrc6 H _
      refine nl ?_
      refine then_n ?_
      refine ⟨H.drop, ?_⟩
      refine upH H ?_ (fun _ h => h.drop)
      refine tk (i := 6) rfl (by kernel_rfl) rfl H (fun w' H => r_slh rfl rfl Tryd.underlying107 sz21_1 (by first | trivial | omega | (simp; omega))) ?_
      refine tk (i := 7) rfl (by kernel_rfl) rfl H (fun w' H => r_cvRS H rfl Tryd.underlying107 Tryd.underlying21 Tryd.underlying9 (by first | omega | (simp; omega))) ?_
      refine tk (i := 8) rfl (by kernel_rfl) rfl H (fun w' H => r_catT rfl rfl (Nat.le_trans (Nat.add_le_add_right (rBytes_le _ _) _) (by simp; omega))) ?_
      refine tk (i := 12) rfl (by kernel_rfl) rfl H (fun w' H => r_catT rfl rfl (by rw [List.length_append]; exact Nat.le_trans (Nat.add_le_add_right (Nat.add_le_add_right (rBytes_le _ _) _) _) (by simp; omega))) ?_
      refine tk (i := 13) rfl (by kernel_rfl) rfl H (fun w' H => r_asg (v := .string _) rfl) ?_
      refine da (by kernel_rfl) ?_
      refine then_n ?_
      refine rt ?_
      refine fin_r ?_
      exact ⟨⟨_, rfl⟩, H.fr⟩
  · refine cl ca28 (c_zzHex _ _ _ (by omega) (by decide)) rfl ?_
    rintro _ w11 ⟨⟨sx, rfl, hsx⟩, F⟩
    replace H := H.keep F; clear F
    refine nl ?_
    refine then_n ?_
    refine ⟨H, ?_⟩
    refine manyA (R := [1, 3]) (by kernel_rfl) ?_ (by simp)
    simp only [List.forall_mem_cons]
    refine ⟨⟨_, rfl, rfl, ?_⟩, ⟨_, rfl, rfl, ?_⟩, by simp⟩
    · refine cvSR H rfl Tryd.underlying9 Tryd.underlying107 Tryd.underlying21 (by omega) rfl ?_
      clear H; intro b7 cp7 w12 hb7 hrc7 H _
      refine nl ?_
      refine then_n ?_
      refine ⟨H.drop, ?_⟩
      refine upH H ?_ (fun _ h => h.drop)
      refine fk (i := 3) (by kernel_rfl) rfl rfl rfl ?_
      refine cvSR H rfl Tryd.underlying9 Tryd.underlying107 Tryd.underlying21 (by omega) rfl ?_
      clear H; intro b8 cp8 w13 hb8 hrc8 H _
      refine nl ?_
      refine then_n ?_
      refine ⟨H.drop, ?_⟩
      refine upH H ?_ (fun _ h => h.drop)
      refine tk (i := 4) rfl (by kernel_rfl) rfl H (fun w' H => r_lnS rfl Tryd.underlying107) ?_
      refine tk (i := 5) rfl (by kernel_rfl) rfl H (fun w' H => r_min2 rfl rfl) ?_
      refine tk (i := 6) rfl (by kernel_rfl) rfl H (fun w' H => r_slh rfl rfl Tryd.underlying107 sz21_1 (by first | trivial | omega | (simp; omega))) ?_
      refine tk (i := 7) rfl (by kernel_rfl) rfl H (fun w' H => r_cvRS H rfl Tryd.underlying107 Tryd.underlying21 Tryd.underlying9 (by first | omega | (simp; omega))) ?_
      refine tk (i := 8) rfl (by kernel_rfl) rfl H (fun w' H => r_catT rfl rfl (Nat.le_trans (Nat.add_le_add_right (rBytes_le _ _) _) (by simp; omega))) ?_
      refine tk (i := 12) rfl (by kernel_rfl) rfl H (fun w' H => r_catT rfl rfl (by rw [List.length_append]; exact Nat.le_trans (Nat.add_le_add_right (Nat.add_le_add_right (rBytes_le _ _) _) _) (by simp; omega))) ?_
      refine tk (i := 13) rfl (by kernel_rfl) rfl H (fun w' H => r_asg (v := .string _) rfl) ?_
      refine da (by kernel_rfl) ?_
      refine then_n ?_
      refine rt ?_
      refine fin_r ?_
      exact ⟨⟨_, rfl⟩, H.fr⟩
    · refine cvSR H rfl Tryd.underlying9 Tryd.underlying107 Tryd.underlying21 (by omega) rfl ?_
      clear H; intro b9 cp9 w14 hb9 hrc9 H _
      refine nl ?_
      refine then_n ?_
      refine ⟨H.drop, ?_⟩
      refine upH H ?_ (fun _ h => h.drop)
      refine tk (i := 4) rfl (by kernel_rfl) rfl H (fun w' H => r_lnS rfl Tryd.underlying107) ?_
      refine tk (i := 5) rfl (by kernel_rfl) rfl H (fun w' H => r_min2 rfl rfl) ?_
      refine fk (i := 1) (by kernel_rfl) rfl rfl rfl ?_
      refine cvSR H rfl Tryd.underlying9 Tryd.underlying107 Tryd.underlying21 (by omega) rfl ?_
      clear H; intro b10 cp10 w15 hb10 hrc10 H _
      refine nl ?_
      refine then_n ?_
      refine ⟨H.drop, ?_⟩
      refine upH H ?_ (fun _ h => h.drop)
      refine tk (i := 6) rfl (by kernel_rfl) rfl H (fun w' H => r_slh rfl rfl Tryd.underlying107 sz21_1 (by first | trivial | omega | (simp; omega))) ?_
      refine tk (i := 7) rfl (by kernel_rfl) rfl H (fun w' H => r_cvRS H rfl Tryd.underlying107 Tryd.underlying21 Tryd.underlying9 (by first | omega | (simp; omega))) ?_
      refine tk (i := 8) rfl (by kernel_rfl) rfl H (fun w' H => r_catT rfl rfl (Nat.le_trans (Nat.add_le_add_right (rBytes_le _ _) _) (by simp; omega))) ?_
      refine tk (i := 12) rfl (by kernel_rfl) rfl H (fun w' H => r_catT rfl rfl (by rw [List.length_append]; exact Nat.le_trans (Nat.add_le_add_right (Nat.add_le_add_right (rBytes_le _ _) _) _) (by simp; omega))) ?_
      refine tk (i := 13) rfl (by kernel_rfl) rfl H (fun w' H => r_asg (v := .string _) rfl) ?_
      refine da (by kernel_rfl) ?_
      refine then_n ?_
      refine rt ?_
      refine fin_r ?_
      exact ⟨⟨_, rfl⟩, H.fr⟩

end Go.Proofs.YtgmkjndmjnbahaaDoor.X
