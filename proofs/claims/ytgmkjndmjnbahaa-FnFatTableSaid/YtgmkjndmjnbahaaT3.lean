/- Walks of functions, printed by a program of this claim. -/
import Derived.Test.YtgmkjndmjnbahaaT2
namespace Go.Proofs.Ytgmkjndmjnbahaa.X
set_option linter.unusedVariables false
set_option linter.unusedSimpArgs false
open Go Go.RowKit

namespace T3
theorem sc5 : scalarB Try.prog 5 = true := by kernel_rfl
theorem sz5_1 : sizeB Try.prog 5 1 = true := by kernel_rfl

end T3
open T3

set_option maxRecDepth 100000 in
set_option maxHeartbeats 2000000 in
theorem c_PutUint16 (w : World) (b o n c : Nat) (x : Int) (T : TypeId) (cur : List UInt8) (hb : w.heap[b]? = some (.cells (Bs cur).toArray T (0, 0))) (hn : 2 ≤ n) (ho : o + n ≤ cur.length) (hx : 0 ≤ x ∧ x ≤ 65535) : Calls Try.prog 57 #[.agg #[], .slice (some ⟨b, o, none⟩) n c, .int .u16 x] w (Ret fun v w' => v = .tuple #[] ∧ (pAt cur o (leB 2 x)).length = cur.length ∧ Fr [b] w w' ∧ w'.heap[b]? = some (.cells (Bs (pAt cur o (leB 2 x))).toArray T (0, 0))) := by
  refine enter (fun _ => .tuple #[]) Try.func57 rfl rfl rfl (res0 rfl) ?_
  have H := SH.rw1 hb
  refine sq ?_
  refine rg ?_
  refine bx (v := .agg _) H rfl rfl rfl ?_
  clear H; intro b1 w1 hb1 H _
  refine nl ?_
  refine then_n ?_
  refine sq ?_
  refine rg ?_
  refine mv (v := .slice _ _ _) rfl rfl ?_
  first | refine ia rfl rfl Try.underlying36 sz5_1 (by omega) rfl ?_ | refine iA rfl rfl Try.underlying36 sz5_1 (by omega) rfl ?_
  first | (refine ldb H rfl sc5 (by omega) rfl ?_; intro hu1) | refine ld H rfl sc5 rfl rfl ?_ | refine lc rfl (by first | assumption | exact H.fr.cell (by assumption) (by simp)) sc5 rfl ?_
  refine nl ?_
  refine then_n ?_
  refine sq ?_
  refine rg ?_
  refine mv (v := .slice _ _ _) rfl rfl ?_
  refine mv (v := .int .u16 _) rfl rfl ?_
  refine cvi rfl rfl Try.underlying5 (by first | exact w_u8 (by omega) | exact w_u8 (rng_u8 _) | exact m_u8 _) rfl ?_
  first | refine ia rfl rfl Try.underlying36 sz5_1 (by omega) rfl ?_ | refine iA rfl rfl Try.underlying36 sz5_1 (by omega) rfl ?_
  first | refine stb H rfl rfl sc5 (by omega) (by first | decide | (simp only [List.length_set, List.length_cons, List.length_nil, List.length_replicate, List.length_append, Bs_length]; omega) | omega) (by omega) ?_ | refine st (v := .int .u8 _) H rfl rfl sc5 rfl (by first | decide | (simp only [List.length_set, List.length_cons, List.length_nil, List.length_replicate, List.length_append, Bs_length]; omega) | omega) (by omega) ?_
  clear H; intro w2 H _
  refine nl ?_
  refine then_n ?_
  refine rg ?_
  refine mv (v := .slice _ _ _) rfl rfl ?_
  refine mv (v := .int .u16 _) rfl rfl ?_
  refine shrK (s := 8) (p := 256) rfl rfl (by decide) (by decide) rfl rfl ?_
  refine cvi rfl rfl Try.underlying5 (by first | exact w_u8 (by omega) | exact w_u8 (rng_u8 _) | exact m_u8 _) rfl ?_
  first | refine ia rfl rfl Try.underlying36 sz5_1 (by omega) rfl ?_ | refine iA rfl rfl Try.underlying36 sz5_1 (by omega) rfl ?_
  first | refine stb H rfl rfl sc5 (by omega) (by first | decide | (simp only [List.length_set, List.length_cons, List.length_nil, List.length_replicate, List.length_append, Bs_length]; omega) | omega) (by omega) ?_ | refine st (v := .int .u8 _) H rfl rfl sc5 rfl (by first | decide | (simp only [List.length_set, List.length_cons, List.length_nil, List.length_replicate, List.length_append, Bs_length]; omega) | omega) (by omega) ?_
  clear H; intro w3 H _
  refine nl ?_
  refine fin_n ?_
  refine ⟨rfl, pAt_len (by rw [leB_len]; omega), H.fr, ?_⟩
  have e := H.look (b := b)
  have e1 := setsL_eq (cur := cur) (es := leB 2 x) (o := o) (by rw [leB_len]; omega)
  rw [← e1, put2F _ _ _ hx]
  exact e

set_option maxRecDepth 100000 in
set_option maxHeartbeats 2000000 in
theorem c_PutUint32 (w : World) (b o n c : Nat) (x : Int) (T : TypeId) (cur : List UInt8) (hb : w.heap[b]? = some (.cells (Bs cur).toArray T (0, 0))) (hn : 4 ≤ n) (ho : o + n ≤ cur.length) (hx : 0 ≤ x ∧ x ≤ 4294967295) : Calls Try.prog 70 #[.agg #[], .slice (some ⟨b, o, none⟩) n c, .int .u32 x] w (Ret fun v w' => v = .tuple #[] ∧ (pAt cur o (leB 4 x)).length = cur.length ∧ Fr [b] w w' ∧ w'.heap[b]? = some (.cells (Bs (pAt cur o (leB 4 x))).toArray T (0, 0))) := by
  refine enter (fun _ => .tuple #[]) Try.func70 rfl rfl rfl (res0 rfl) ?_
  have H := SH.rw1 hb
  refine sq ?_
  refine rg ?_
  refine bx (v := .agg _) H rfl rfl rfl ?_
  clear H; intro b1 w1 hb1 H _
  refine nl ?_
  refine then_n ?_
  refine sq ?_
  refine rg ?_
  refine mv (v := .slice _ _ _) rfl rfl ?_
  first | refine ia rfl rfl Try.underlying36 sz5_1 (by omega) rfl ?_ | refine iA rfl rfl Try.underlying36 sz5_1 (by omega) rfl ?_
  first | (refine ldb H rfl sc5 (by omega) rfl ?_; intro hu1) | refine ld H rfl sc5 rfl rfl ?_ | refine lc rfl (by first | assumption | exact H.fr.cell (by assumption) (by simp)) sc5 rfl ?_
  refine nl ?_
  refine then_n ?_
  refine sq ?_
  refine rg ?_
  refine mv (v := .slice _ _ _) rfl rfl ?_
  refine mv (v := .int .u32 _) rfl rfl ?_
  refine cvi rfl rfl Try.underlying5 (by first | exact w_u8 (by omega) | exact w_u8 (rng_u8 _) | exact m_u8 _) rfl ?_
  first | refine ia rfl rfl Try.underlying36 sz5_1 (by omega) rfl ?_ | refine iA rfl rfl Try.underlying36 sz5_1 (by omega) rfl ?_
  first | refine stb H rfl rfl sc5 (by omega) (by first | decide | (simp only [List.length_set, List.length_cons, List.length_nil, List.length_replicate, List.length_append, Bs_length]; omega) | omega) (by omega) ?_ | refine st (v := .int .u8 _) H rfl rfl sc5 rfl (by first | decide | (simp only [List.length_set, List.length_cons, List.length_nil, List.length_replicate, List.length_append, Bs_length]; omega) | omega) (by omega) ?_
  clear H; intro w2 H _
  refine nl ?_
  refine then_n ?_
  refine sq ?_
  refine rg ?_
  refine mv (v := .slice _ _ _) rfl rfl ?_
  refine mv (v := .int .u32 _) rfl rfl ?_
  refine shrK (s := 8) (p := 256) rfl rfl (by decide) (by decide) rfl rfl ?_
  refine cvi rfl rfl Try.underlying5 (by first | exact w_u8 (by omega) | exact w_u8 (rng_u8 _) | exact m_u8 _) rfl ?_
  first | refine ia rfl rfl Try.underlying36 sz5_1 (by omega) rfl ?_ | refine iA rfl rfl Try.underlying36 sz5_1 (by omega) rfl ?_
  first | refine stb H rfl rfl sc5 (by omega) (by first | decide | (simp only [List.length_set, List.length_cons, List.length_nil, List.length_replicate, List.length_append, Bs_length]; omega) | omega) (by omega) ?_ | refine st (v := .int .u8 _) H rfl rfl sc5 rfl (by first | decide | (simp only [List.length_set, List.length_cons, List.length_nil, List.length_replicate, List.length_append, Bs_length]; omega) | omega) (by omega) ?_
  clear H; intro w3 H _
  refine nl ?_
  refine then_n ?_
  refine sq ?_
  refine rg ?_
  refine mv (v := .slice _ _ _) rfl rfl ?_
  refine mv (v := .int .u32 _) rfl rfl ?_
  refine shrK (s := 16) (p := 65536) rfl rfl (by decide) (by decide) rfl rfl ?_
  refine cvi rfl rfl Try.underlying5 (by first | exact w_u8 (by omega) | exact w_u8 (rng_u8 _) | exact m_u8 _) rfl ?_
  first | refine ia rfl rfl Try.underlying36 sz5_1 (by omega) rfl ?_ | refine iA rfl rfl Try.underlying36 sz5_1 (by omega) rfl ?_
  first | refine stb H rfl rfl sc5 (by omega) (by first | decide | (simp only [List.length_set, List.length_cons, List.length_nil, List.length_replicate, List.length_append, Bs_length]; omega) | omega) (by omega) ?_ | refine st (v := .int .u8 _) H rfl rfl sc5 rfl (by first | decide | (simp only [List.length_set, List.length_cons, List.length_nil, List.length_replicate, List.length_append, Bs_length]; omega) | omega) (by omega) ?_
  clear H; intro w4 H _
  refine nl ?_
  refine then_n ?_
  refine rg ?_
  refine mv (v := .slice _ _ _) rfl rfl ?_
  refine mv (v := .int .u32 _) rfl rfl ?_
  refine shrK (s := 24) (p := 16777216) rfl rfl (by decide) (by decide) rfl rfl ?_
  refine cvi rfl rfl Try.underlying5 (by first | exact w_u8 (by omega) | exact w_u8 (rng_u8 _) | exact m_u8 _) rfl ?_
  first | refine ia rfl rfl Try.underlying36 sz5_1 (by omega) rfl ?_ | refine iA rfl rfl Try.underlying36 sz5_1 (by omega) rfl ?_
  first | refine stb H rfl rfl sc5 (by omega) (by first | decide | (simp only [List.length_set, List.length_cons, List.length_nil, List.length_replicate, List.length_append, Bs_length]; omega) | omega) (by omega) ?_ | refine st (v := .int .u8 _) H rfl rfl sc5 rfl (by first | decide | (simp only [List.length_set, List.length_cons, List.length_nil, List.length_replicate, List.length_append, Bs_length]; omega) | omega) (by omega) ?_
  clear H; intro w5 H _
  refine nl ?_
  refine fin_n ?_
  refine ⟨rfl, pAt_len (by rw [leB_len]; omega), H.fr, ?_⟩
  have e := H.look (b := b)
  have e1 := setsL_eq (cur := cur) (es := leB 4 x) (o := o) (by rw [leB_len]; omega)
  rw [← e1, put4 _ _ _ hx]
  exact e

set_option maxRecDepth 100000 in
set_option maxHeartbeats 1000000 in
theorem c_uint16 (w : World) (B : Option Addr) (n c : Nat) (xs : List UInt8) (hb : RB w B n xs) (hn : n = 2) : Calls Try.prog 58 #[.agg #[], .slice B n c] w (Ret fun v w' => v = .int .u16 (leV xs) ∧ Fr [] w w') := by
  refine enter (fun ρ => ρ 4) Try.func58 rfl rfl rfl (res1 rfl) ?_
  have H := SH.nil w
  have hbl := hb.1
  obtain ⟨ad, rfl, _⟩ := hb.2 0 (by omega)
  have hx0 := hb.at 0 (by omega)
  have hx1 := hb.at 1 (by omega)
  refine sq ?_
  refine rg ?_
  refine bx (v := .agg _) H rfl rfl rfl ?_
  clear H; intro b1 w1 hb1 H _
  refine asg (v := .int .u16 _) rfl rfl ?_
  refine nl ?_
  refine then_n ?_
  refine sq ?_
  refine rg ?_
  refine mv (v := .slice _ _ _) rfl rfl ?_
  first | refine ia rfl rfl Try.underlying36 sz5_1 (by omega) rfl ?_ | refine iA rfl rfl Try.underlying36 sz5_1 (by omega) rfl ?_
  first | (refine ldb H rfl sc5 (by omega) rfl ?_; intro hu1) | refine ld H rfl sc5 rfl rfl ?_ | refine lc rfl (by first | assumption | exact H.fr.cell (by assumption) (by simp)) sc5 rfl ?_
  refine nl ?_
  refine then_n ?_
  refine sq ?_
  refine dr (by kernel_rfl) ?_   -- region 2
  have H := H.drew
  refine hold (fun _ => True) [] ?_
  refine tk (i := 0) rfl (by kernel_rfl) rfl trivial (fun _ _ => r_mv (v := .slice _ _ _) rfl) ?_
  first | refine tk (i := 1) rfl (by kernel_rfl) rfl trivial (fun _ _ => r_ia rfl rfl Try.underlying36 sz5_1 (by omega)) ?_ | refine tk (i := 1) rfl (by kernel_rfl) rfl trivial (fun _ _ => r_iA rfl rfl Try.underlying36 sz5_1 (by omega)) ?_
  refine tk (i := 4) rfl (by kernel_rfl) rfl trivial (fun _ _ => r_mv (v := .slice _ _ _) rfl) ?_
  first | refine tk (i := 5) rfl (by kernel_rfl) rfl trivial (fun _ _ => r_ia rfl rfl Try.underlying36 sz5_1 (by omega)) ?_ | refine tk (i := 5) rfl (by kernel_rfl) rfl trivial (fun _ _ => r_iA rfl rfl Try.underlying36 sz5_1 (by omega)) ?_
  refine unfree ?_
  refine holdH H [] ?_
  first | refine tk (i := 2) rfl (by kernel_rfl) rfl H (fun w' H => r_ldb H rfl sc5 (by omega)) ?_ | refine tk (i := 2) rfl (by kernel_rfl) rfl H (fun w' H => r_ld H rfl sc5 rfl) ?_ | refine tk (i := 2) rfl (by kernel_rfl) rfl H (fun w' H => r_lc rfl (by first | assumption | exact H.fr.cell (by assumption) (by simp)) sc5) ?_
  refine tk (i := 3) rfl (by kernel_rfl) rfl H (fun w' H => r_cvi rfl rfl Try.underlying77 (by first | exact w_u16 (by omega) | exact w_u16 (rng_u16 _) | exact m_u16 _)) ?_
  first | refine tk (i := 6) rfl (by kernel_rfl) rfl H (fun w' H => r_ldb H rfl sc5 (by omega)) ?_ | refine tk (i := 6) rfl (by kernel_rfl) rfl H (fun w' H => r_ld H rfl sc5 rfl) ?_ | refine tk (i := 6) rfl (by kernel_rfl) rfl H (fun w' H => r_lc rfl (by first | assumption | exact H.fr.cell (by assumption) (by simp)) sc5) ?_
  refine tk (i := 7) rfl (by kernel_rfl) rfl H (fun w' H => r_cvi rfl rfl Try.underlying77 (by first | exact w_u16 (by omega) | exact w_u16 (rng_u16 _) | exact m_u16 _)) ?_
  refine tk (i := 8) rfl (by kernel_rfl) rfl H (fun w' H => r_shlK (s := 8) (p := 256) rfl rfl (by decide) (by decide) (by first | exact w_u16 (by omega) | exact w_u16 (rng_u16 _) | exact m_u16 _)) ?_
  refine tk (i := 9) rfl (by kernel_rfl) rfl H (fun w' H => r_bor rfl rfl rfl) ?_
  refine tk (i := 10) rfl (by kernel_rfl) rfl H (fun w' H => r_asg (v := .int .u16 _) rfl) ?_
  refine da (by kernel_rfl) ?_
  refine then_n ?_
  refine rt ?_
  refine fin_r ?_
  refine ⟨congrArg (Value.int .u16) ?_, H.fr⟩
  have m1 : ((xs.getD 1 0).toNat : Int) * 256 % 65536 = ((xs.getD 1 0).toNat : Int) * 256 := by have := (xs.getD 1 0).toNat_lt; omega
  have e := two_at (cur := xs) (o := 0) (by omega)
  rw [List.drop_zero, List.take_of_length_le (by omega)] at e
  rw [e, ← le16_eq]
  simp only [Nat.zero_add]
  rw [← m1]
  rfl

set_option maxRecDepth 100000 in
set_option maxHeartbeats 1000000 in
theorem c_uint32 (w : World) (B : Option Addr) (n c : Nat) (xs : List UInt8) (hb : RB w B n xs) (hn : n = 4) : Calls Try.prog 71 #[.agg #[], .slice B n c] w (Ret fun v w' => v = .int .u32 (leV xs) ∧ Fr [] w w') := by
  refine enter (fun ρ => ρ 4) Try.func71 rfl rfl rfl (res1 rfl) ?_
  have H := SH.nil w
  have hbl := hb.1
  obtain ⟨ad, rfl, _⟩ := hb.2 0 (by omega)
  have hx0 := hb.at 0 (by omega)
  have hx1 := hb.at 1 (by omega)
  have hx2 := hb.at 2 (by omega)
  have hx3 := hb.at 3 (by omega)
  refine sq ?_
  refine rg ?_
  refine bx (v := .agg _) H rfl rfl rfl ?_
  clear H; intro b1 w1 hb1 H _
  refine asg (v := .int .u32 _) rfl rfl ?_
  refine nl ?_
  refine then_n ?_
  refine sq ?_
  refine rg ?_
  refine mv (v := .slice _ _ _) rfl rfl ?_
  first | refine ia rfl rfl Try.underlying36 sz5_1 (by omega) rfl ?_ | refine iA rfl rfl Try.underlying36 sz5_1 (by omega) rfl ?_
  first | (refine ldb H rfl sc5 (by omega) rfl ?_; intro hu1) | refine ld H rfl sc5 rfl rfl ?_ | refine lc rfl (by first | assumption | exact H.fr.cell (by assumption) (by simp)) sc5 rfl ?_
  refine nl ?_
  refine then_n ?_
  refine sq ?_
  refine dr (by kernel_rfl) ?_   -- region 2
  have H := H.drew
  refine hold (fun _ => True) [] ?_
  refine tk (i := 0) rfl (by kernel_rfl) rfl trivial (fun _ _ => r_mv (v := .slice _ _ _) rfl) ?_
  first | refine tk (i := 1) rfl (by kernel_rfl) rfl trivial (fun _ _ => r_ia rfl rfl Try.underlying36 sz5_1 (by omega)) ?_ | refine tk (i := 1) rfl (by kernel_rfl) rfl trivial (fun _ _ => r_iA rfl rfl Try.underlying36 sz5_1 (by omega)) ?_
  refine tk (i := 4) rfl (by kernel_rfl) rfl trivial (fun _ _ => r_mv (v := .slice _ _ _) rfl) ?_
  first | refine tk (i := 5) rfl (by kernel_rfl) rfl trivial (fun _ _ => r_ia rfl rfl Try.underlying36 sz5_1 (by omega)) ?_ | refine tk (i := 5) rfl (by kernel_rfl) rfl trivial (fun _ _ => r_iA rfl rfl Try.underlying36 sz5_1 (by omega)) ?_
  refine tk (i := 10) rfl (by kernel_rfl) rfl trivial (fun _ _ => r_mv (v := .slice _ _ _) rfl) ?_
  first | refine tk (i := 11) rfl (by kernel_rfl) rfl trivial (fun _ _ => r_ia rfl rfl Try.underlying36 sz5_1 (by omega)) ?_ | refine tk (i := 11) rfl (by kernel_rfl) rfl trivial (fun _ _ => r_iA rfl rfl Try.underlying36 sz5_1 (by omega)) ?_
  refine tk (i := 16) rfl (by kernel_rfl) rfl trivial (fun _ _ => r_mv (v := .slice _ _ _) rfl) ?_
  first | refine tk (i := 17) rfl (by kernel_rfl) rfl trivial (fun _ _ => r_ia rfl rfl Try.underlying36 sz5_1 (by omega)) ?_ | refine tk (i := 17) rfl (by kernel_rfl) rfl trivial (fun _ _ => r_iA rfl rfl Try.underlying36 sz5_1 (by omega)) ?_
  refine unfree ?_
  refine holdH H [] ?_
  first | refine tk (i := 2) rfl (by kernel_rfl) rfl H (fun w' H => r_ldb H rfl sc5 (by omega)) ?_ | refine tk (i := 2) rfl (by kernel_rfl) rfl H (fun w' H => r_ld H rfl sc5 rfl) ?_ | refine tk (i := 2) rfl (by kernel_rfl) rfl H (fun w' H => r_lc rfl (by first | assumption | exact H.fr.cell (by assumption) (by simp)) sc5) ?_
  refine tk (i := 3) rfl (by kernel_rfl) rfl H (fun w' H => r_cvi rfl rfl Try.underlying24 (by first | exact w_u32 (by omega) | exact w_u32 (rng_u32 _) | exact m_u32 _)) ?_
  first | refine tk (i := 6) rfl (by kernel_rfl) rfl H (fun w' H => r_ldb H rfl sc5 (by omega)) ?_ | refine tk (i := 6) rfl (by kernel_rfl) rfl H (fun w' H => r_ld H rfl sc5 rfl) ?_ | refine tk (i := 6) rfl (by kernel_rfl) rfl H (fun w' H => r_lc rfl (by first | assumption | exact H.fr.cell (by assumption) (by simp)) sc5) ?_
  refine tk (i := 7) rfl (by kernel_rfl) rfl H (fun w' H => r_cvi rfl rfl Try.underlying24 (by first | exact w_u32 (by omega) | exact w_u32 (rng_u32 _) | exact m_u32 _)) ?_
  refine tk (i := 8) rfl (by kernel_rfl) rfl H (fun w' H => r_shlK (s := 8) (p := 256) rfl rfl (by decide) (by decide) (by first | exact w_u32 (by omega) | exact w_u32 (rng_u32 _) | exact m_u32 _)) ?_
  refine tk (i := 9) rfl (by kernel_rfl) rfl H (fun w' H => r_bor rfl rfl rfl) ?_
  first | refine tk (i := 12) rfl (by kernel_rfl) rfl H (fun w' H => r_ldb H rfl sc5 (by omega)) ?_ | refine tk (i := 12) rfl (by kernel_rfl) rfl H (fun w' H => r_ld H rfl sc5 rfl) ?_ | refine tk (i := 12) rfl (by kernel_rfl) rfl H (fun w' H => r_lc rfl (by first | assumption | exact H.fr.cell (by assumption) (by simp)) sc5) ?_
  refine tk (i := 13) rfl (by kernel_rfl) rfl H (fun w' H => r_cvi rfl rfl Try.underlying24 (by first | exact w_u32 (by omega) | exact w_u32 (rng_u32 _) | exact m_u32 _)) ?_
  refine tk (i := 14) rfl (by kernel_rfl) rfl H (fun w' H => r_shlK (s := 16) (p := 65536) rfl rfl (by decide) (by decide) (by first | exact w_u32 (by omega) | exact w_u32 (rng_u32 _) | exact m_u32 _)) ?_
  refine tk (i := 15) rfl (by kernel_rfl) rfl H (fun w' H => r_bor rfl rfl rfl) ?_
  first | refine tk (i := 18) rfl (by kernel_rfl) rfl H (fun w' H => r_ldb H rfl sc5 (by omega)) ?_ | refine tk (i := 18) rfl (by kernel_rfl) rfl H (fun w' H => r_ld H rfl sc5 rfl) ?_ | refine tk (i := 18) rfl (by kernel_rfl) rfl H (fun w' H => r_lc rfl (by first | assumption | exact H.fr.cell (by assumption) (by simp)) sc5) ?_
  refine tk (i := 19) rfl (by kernel_rfl) rfl H (fun w' H => r_cvi rfl rfl Try.underlying24 (by first | exact w_u32 (by omega) | exact w_u32 (rng_u32 _) | exact m_u32 _)) ?_
  refine tk (i := 20) rfl (by kernel_rfl) rfl H (fun w' H => r_shlK (s := 24) (p := 16777216) rfl rfl (by decide) (by decide) (by first | exact w_u32 (by omega) | exact w_u32 (rng_u32 _) | exact m_u32 _)) ?_
  refine tk (i := 21) rfl (by kernel_rfl) rfl H (fun w' H => r_bor rfl rfl rfl) ?_
  refine tk (i := 22) rfl (by kernel_rfl) rfl H (fun w' H => r_asg (v := .int .u32 _) rfl) ?_
  refine da (by kernel_rfl) ?_
  refine then_n ?_
  refine rt ?_
  refine fin_r ?_
  refine ⟨congrArg (Value.int .u32) ?_, H.fr⟩
  have m1 : ((xs.getD 1 0).toNat : Int) * 256 % 4294967296 = ((xs.getD 1 0).toNat : Int) * 256 := by have := (xs.getD 1 0).toNat_lt; omega
  have m2 : ((xs.getD 2 0).toNat : Int) * 65536 % 4294967296 = ((xs.getD 2 0).toNat : Int) * 65536 := by have := (xs.getD 2 0).toNat_lt; omega
  have m3 : ((xs.getD 3 0).toNat : Int) * 16777216 % 4294967296 = ((xs.getD 3 0).toNat : Int) * 16777216 := by have := (xs.getD 3 0).toNat_lt; omega
  have e := four_at (cur := xs) (o := 0) (by omega)
  rw [List.drop_zero, List.take_of_length_le (by omega)] at e
  rw [e, ← le32_eq]
  simp only [Nat.zero_add]
  rw [← m1, ← m2, ← m3]
  rfl

end Go.Proofs.Ytgmkjndmjnbahaa.X
