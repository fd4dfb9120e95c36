/- Walks of functions, printed by a program of this claim. -/
import Derived.Test.YtdoiddkogigppaaC3
namespace Go.Proofs.Ytdoiddkogigppaa.X
set_option linter.unusedVariables false
set_option linter.unusedSimpArgs false
open Go Go.RowKit

namespace C4
theorem ca17 : callable Try.prog 17 = true := by kernel_rfl
theorem ca20 : callable Try.prog 20 = true := by kernel_rfl
theorem ca21 : callable Try.prog 21 = true := by kernel_rfl
theorem ca27 : callable Try.prog 27 = true := by kernel_rfl
theorem ca57 : callable Try.prog 57 = true := by kernel_rfl
theorem cc52 : Try.prog.concrete 52 = true := by kernel_rfl
theorem fo64_0 : fieldOff Try.prog 64 0 = some 0 := by kernel_rfl
theorem me52_WriteAt : ∀ (v : Value) (w : World), (method (Try.prog.types.size + Made.depth) 52 v "WriteAt").run Try.prog w = .ok (57, v) w := fun v w => by kernel_rfl
theorem sc30 : scalarB Try.prog 30 = true := by kernel_rfl

end C4
open C4

set_option maxRecDepth 100000 in
theorem c_tabWrite (w : World) (t : Nat) (A : Option Addr) (k cap : Nat) (l : PL) (qs : List MP) (hT : TabAt 56 75 w t A k cap l qs) (hk : k ≤ 4) (hok : ∀ q ∈ qs, q.ok) (bm bd L c f2 : Nat) (x1 x3 : Value) (T : TypeId) (ds : List UInt8) (hm : w.heap[bm]? = some (.cells [.slice (some ⟨bd, 0, none⟩) L c, x1, .bool false, x3].toArray 64 (0, 0))) (hd : w.heap[bd]? = some (.cells (Bs ds).toArray T (c, f2))) (hL : 512 ≤ L ∧ L ≤ ds.length ∧ L ≤ c ∧ L ≤ 1000000000) (hne : bm ≠ bd) (z : Int) : Calls Try.prog 21 #[.pointer (some ⟨t, 0, none⟩), .iface 52 (.pointer (some ⟨bm, 0, none⟩)), .int .i64 z] w (Ret fun v w' => v = .nilIface ∧ Fr [bd] w w' ∧ w'.heap[bd]? = some (.cells (Bs (pAt ds 446 ((arr4 qs qs.length).flatMap MP.bytes ++ [85, 170]))).toArray T (c, f2))) := by
  refine enter (fun ρ => ρ 6) Try.func21 rfl rfl rfl (res1 rfl) ?_
  have H : SH w [bd] w [⟨bd, .cells (Bs ds).toArray T (c, f2), true⟩, ⟨bm, .cells [.slice (some ⟨bd, 0, none⟩) L c, x1, .bool false, x3].toArray 64 (0, 0), false⟩] := SH.init [bd] _ (by simp [hm, hd]) (by simp [hne.symm]) (by simp)
  refine sq ?_
  refine rg ?_
  refine asg (v := .nilIface) rfl rfl ?_
  refine nl ?_
  refine then_n ?_
  refine sq ?_
  refine rg ?_
  refine mv (v := .pointer _) rfl rfl ?_
  refine cl ca27 (c_tabBytes _ t A k cap l qs hT hk hok) rfl ?_
  rintro _ w1 ⟨b1, cb, rfl, hb1, hRB, F⟩
  replace H := H.keep F; clear F
  refine asg (v := .slice _ _ _) rfl rfl ?_
  refine nl ?_
  refine then_n ?_
  refine sq ?_
  refine rg ?_
  first | refine mv (v := .nilIface) rfl rfl ?_ | refine mv (v := .iface _ _) rfl rfl ?_ | refine mv rfl rfl ?_
  refine mv (v := .slice _ _ _) rfl rfl ?_
  refine mc rfl me52_WriteAt ca57 (c_writeAt _ bm bd L c 446 66 cb f2 x1 x3 _ _ ds _ (H.look (b := bm)) (H.look (b := bd)) hRB (by omega) (by omega) (by omega) (by decide) (by omega) hne) rfl ?_
  rintro _ w2 ⟨rfl, F, hnew⟩
  replace H := H.put F hnew; clear F hnew
  refine mv (v := .tuple _) rfl rfl ?_
  refine xt rfl rfl rfl ?_
  refine xt rfl rfl rfl ?_
  refine asg (v := .int .i64 _) rfl rfl ?_
  first | refine asg (v := .nilIface) rfl rfl ?_ | refine asg (v := .iface _ _) rfl rfl ?_ | refine asg rfl rfl ?_
  refine nl ?_
  refine then_n ?_
  refine sq ?_
  refine sq ?_
  refine rg ?_
  first | refine mv (v := .nilIface) rfl rfl ?_ | refine mv (v := .iface _ _) rfl rfl ?_ | refine mv rfl rfl ?_
  first | refine neqI1 rfl Try.underlying49 rfl ?_ | refine neqI0 rfl Try.underlying49 rfl ?_
  refine nl ?_
  refine then_n ?_
  first | refine cF rfl rfl ?_ | refine cbF rfl rfl ?_   -- test 1
  refine sk ?_
  refine then_n ?_
  refine sq ?_
  refine sq ?_
  refine rg ?_
  refine mv (v := .int .i64 _) rfl rfl ?_
  refine mv (v := .slice _ _ _) rfl rfl ?_
  refine lnS rfl Try.underlying30 rfl ?_
  refine neq rfl rfl rfl ?_
  refine nl ?_
  refine then_n ?_
  first | refine cF rfl (by omega) ?_ | refine cbF rfl (by omega) ?_   -- test 2
  refine sk ?_
  refine then_n ?_
  refine sq ?_
  refine rg ?_
  refine asg (v := .nilIface) rfl rfl ?_
  refine nl ?_
  refine then_n ?_
  refine rt ?_
  refine fin_r ?_
  exact ⟨rfl, H.fr, H.look⟩

set_option maxRecDepth 100000 in
theorem c_MbrWrite (w : World) (B : Option Addr) (m c : Nat) (ds : List UInt8) (hR : RB w B m ds) (hl : 512 ≤ m ∧ m ≤ 100000000) (A2 : Option Addr) (k c2 : Nat) (qs : List MP) (hq : RM w A2 k c2 qs) (hk : k ≤ 4) : Calls Try.prog 12 #[.slice B m c, .int .i64 512, .slice A2 k c2] w (Ret fun v w' => ∃ b c' junk fr, v = .tuple #[.slice (some ⟨b, 0, none⟩) m c', .bool true] ∧ w.heap.size ≤ b ∧ m ≤ c' ∧ w'.heap[b]? = some (.cells (Bs (mbrB ds (arr4 qs qs.length) ++ junk)).toArray 5 fr) ∧ Fr [] w w') := by
  refine enter (fun ρ => .tuple #[ρ 6, ρ 7]) Try.func12 rfl rfl rfl (res2 rfl) ?_
  have H := SH.nil w
  have hRl := hR.1
  have hok := hq.ok
  refine sq ?_
  refine rg ?_
  refine asg (v := .slice _ _ _) rfl rfl ?_
  refine asg (v := .bool _) rfl rfl ?_
  refine nl ?_
  refine then_n ?_
  refine sq ?_
  refine rg ?_
  refine mv (v := .slice _ _ _) rfl rfl ?_
  refine cvBS rfl (by exact hR) Try.underlying30 Try.underlying5 Try.underlying9 rfl ?_
  refine cl ca17 (c_memoryOf _ _ (by omega)) rfl ?_
  rintro _ w1 ⟨bm, bd, cm, rfl, hcm, K⟩
  replace H := H.join K (by simp); simp only [List.cons_append, List.nil_append] at H; clear K
  refine asg (v := .pointer _) rfl rfl ?_
  refine nl ?_
  refine then_n ?_
  refine sq ?_
  refine rg ?_
  have hne : bm ≠ bd := by have hq := H.ap; simp at hq; omega
  refine mv (v := .slice _ _ _) rfl rfl ?_
  refine mv (v := .int .i64 _) rfl rfl ?_
  refine cl ca20 (c_mbrTable _ A2 k c2 qs (hq.keep H.fr) (by omega)) rfl ?_
  rintro _ w2 ⟨t, A, cap, l, rfl, hT, _, ht, F⟩
  replace H := H.keep F; clear F
  refine mv (v := .pointer _) rfl rfl ?_
  refine mi (v := .pointer _) rfl cc52 rfl ?_
  refine mv (v := .slice _ _ _) rfl rfl ?_
  refine lnS rfl Try.underlying30 rfl ?_
  refine cl ca21 (c_tabWrite _ t A k cap l qs hT hk hok bm bd _ cm _ _ _ _ _ (H.look (b := bm)) (H.look (b := bd)) ⟨by omega, by simp, by omega, by omega⟩ hne _) rfl ?_
  rintro _ w3 ⟨rfl, F, hnew⟩
  replace H := H.put (b := bd) F hnew; clear F hnew
  first | refine asg (v := .nilIface) rfl rfl ?_ | refine asg (v := .iface _ _) rfl rfl ?_ | refine asg rfl rfl ?_
  refine nl ?_
  refine then_n ?_
  refine sq ?_
  refine dr (by kernel_rfl) ?_   -- region 3
  have H := H.drew
  refine holdH H [] ?_
  refine tk (i := 0) rfl (by kernel_rfl) rfl H (fun w' H => r_mv (v := .pointer _) rfl) ?_
  first | refine tk (i := 1) rfl (by kernel_rfl) rfl H (fun w' H => r_nc rfl) ?_ | refine tk (i := 1) rfl (by kernel_rfl) rfl H (fun w' H => r_nci rfl) ?_
  refine tk (i := 2) rfl (by kernel_rfl) rfl H (fun w' H => r_fa rfl fo64_0) ?_
  first | refine tk (i := 3) rfl (by kernel_rfl) rfl H (fun w' H => r_ld H rfl sc30 rfl) ?_ | refine tk (i := 3) rfl (by kernel_rfl) rfl H (fun w' H => r_lc rfl (by first | assumption | exact H.fr.cell (by assumption) (by simp)) sc30) ?_ | refine tk (i := 3) rfl (by kernel_rfl) rfl H (fun w' H => r_ld H rfl sc30 (by assumption)) ?_
  first | refine tk (i := 4) rfl (by kernel_rfl) rfl H (fun w' H => r_mv (v := .nilIface) rfl) ?_ | refine tk (i := 4) rfl (by kernel_rfl) rfl H (fun w' H => r_mv (v := .iface _ _) rfl) ?_ | refine tk (i := 4) rfl (by kernel_rfl) rfl H (fun w' H => r_mv rfl) ?_
  first | refine tk (i := 5) rfl (by kernel_rfl) rfl H (fun w' H => r_eqlI1 rfl Try.underlying49) ?_ | refine tk (i := 5) rfl (by kernel_rfl) rfl H (fun w' H => r_eqlI0 rfl Try.underlying49) ?_
  refine tk (i := 6) rfl (by kernel_rfl) rfl H (fun w' H => r_asg (v := .slice _ _ _) rfl) ?_
  refine tk (i := 7) rfl (by kernel_rfl) rfl H (fun w' H => r_asg (v := .bool _) rfl) ?_
  refine da (by kernel_rfl) ?_
  refine then_n ?_
  refine rt ?_
  refine fin_r ?_
  refine ⟨bd, cm, List.replicate (cm - ds.length) 0, (cm, cm + 1), congrArg (fun k => Value.tuple #[.slice (some ⟨bd, 0, none⟩) k cm, .bool true]) hRl, H.ge, by omega, ?_, H.fr⟩
  have e := H.look (b := bd)
  rw [e, pAt_app (by rw [List.length_append, flat_len MP.bytes_len, arr4_len (Nat.le_refl _) (by have := hq.len; omega)]; simp; omega)]
  rfl

end Go.Proofs.Ytdoiddkogigppaa.X
