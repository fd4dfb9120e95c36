/- Walks of functions, printed by a program of this claim. -/
import Derived.Test.YtdoiddkogigppaaA14
namespace Go.Proofs.Ytdoiddkogigppaa.X
set_option linter.unusedVariables false
set_option linter.unusedSimpArgs false
open Go Go.RowKit

namespace C1
theorem fo64_0 : fieldOff Try.prog 64 0 = some 0 := by kernel_rfl
theorem fo64_2 : fieldOff Try.prog 64 2 = some 2 := by kernel_rfl
theorem sc30 : scalarB Try.prog 30 = true := by kernel_rfl
theorem sc4 : scalarB Try.prog 4 = true := by kernel_rfl
theorem sc5 : scalarB Try.prog 5 = true := by kernel_rfl
theorem sz5_1 : sizeB Try.prog 5 1 = true := by kernel_rfl

end C1
open C1

set_option maxRecDepth 100000 in
theorem c_PutUint32 (w : World) (b o n c : Nat) (x : Int) (T : TypeId) (cur : List UInt8) (hb : w.heap[b]? = some (.cells (Bs cur).toArray T (0, 0))) (hn : 4 ≤ n) (ho : o + n ≤ cur.length) (hx : 0 ≤ x ∧ x ≤ 4294967295) : Calls Try.prog 38 #[.agg #[], .slice (some ⟨b, o, none⟩) n c, .int .u32 x] w (Ret fun v w' => v = .tuple #[] ∧ (pAt cur o (leB 4 x)).length = cur.length ∧ Fr [b] w w' ∧ w'.heap[b]? = some (.cells (Bs (pAt cur o (leB 4 x))).toArray T (0, 0))) := by
  refine enter (fun _ => .tuple #[]) Try.func38 rfl rfl rfl (res0 rfl) ?_
  have H := SH.rw1 hb
  refine sq ?_
  refine rg ?_
  refine bx (v := .agg _) H rfl rfl rfl ?_
  clear H; intro b1 w1 hb1 H _
  refine nl ?_
  refine then_n ?_
  refine sq ?_
  refine rg ?_
  refine mv (v := .slice _ _ _) rfl rfl ?_
  first | refine ia rfl rfl Try.underlying30 sz5_1 (by omega) rfl ?_ | refine iA rfl rfl Try.underlying30 sz5_1 (by omega) rfl ?_
  first | (refine ldb H rfl sc5 (by omega) rfl ?_; intro hu1) | refine ld H rfl sc5 rfl rfl ?_ | refine lc rfl (by assumption) sc5 rfl ?_
  refine nl ?_
  refine then_n ?_
  refine sq ?_
  refine rg ?_
  refine mv (v := .slice _ _ _) rfl rfl ?_
  refine mv (v := .int .u32 _) rfl rfl ?_
  refine cvi rfl rfl Try.underlying5 (by first | exact w_u8 (by omega) | exact w_u8 (rng_u8 _) | exact m_u8 _) rfl ?_
  first | refine ia rfl rfl Try.underlying30 sz5_1 (by omega) rfl ?_ | refine iA rfl rfl Try.underlying30 sz5_1 (by omega) rfl ?_
  first | refine stb H rfl rfl sc5 (by omega) (by first | decide | (simp only [List.length_set, List.length_cons, List.length_nil, List.length_replicate, List.length_append, Bs_length]; omega) | omega) (by omega) ?_ | refine st (v := .int .u8 _) H rfl rfl sc5 rfl (by first | decide | (simp only [List.length_set, List.length_cons, List.length_nil, List.length_replicate, List.length_append, Bs_length]; omega) | omega) (by omega) ?_
  clear H; intro w2 H _
  refine nl ?_
  refine then_n ?_
  refine sq ?_
  refine rg ?_
  refine mv (v := .slice _ _ _) rfl rfl ?_
  refine mv (v := .int .u32 _) rfl rfl ?_
  refine shrK (s := 8) (p := 256) rfl rfl (by decide) (by decide) rfl rfl ?_
  refine cvi rfl rfl Try.underlying5 (by first | exact w_u8 (by omega) | exact w_u8 (rng_u8 _) | exact m_u8 _) rfl ?_
  first | refine ia rfl rfl Try.underlying30 sz5_1 (by omega) rfl ?_ | refine iA rfl rfl Try.underlying30 sz5_1 (by omega) rfl ?_
  first | refine stb H rfl rfl sc5 (by omega) (by first | decide | (simp only [List.length_set, List.length_cons, List.length_nil, List.length_replicate, List.length_append, Bs_length]; omega) | omega) (by omega) ?_ | refine st (v := .int .u8 _) H rfl rfl sc5 rfl (by first | decide | (simp only [List.length_set, List.length_cons, List.length_nil, List.length_replicate, List.length_append, Bs_length]; omega) | omega) (by omega) ?_
  clear H; intro w3 H _
  refine nl ?_
  refine then_n ?_
  refine sq ?_
  refine rg ?_
  refine mv (v := .slice _ _ _) rfl rfl ?_
  refine mv (v := .int .u32 _) rfl rfl ?_
  refine shrK (s := 16) (p := 65536) rfl rfl (by decide) (by decide) rfl rfl ?_
  refine cvi rfl rfl Try.underlying5 (by first | exact w_u8 (by omega) | exact w_u8 (rng_u8 _) | exact m_u8 _) rfl ?_
  first | refine ia rfl rfl Try.underlying30 sz5_1 (by omega) rfl ?_ | refine iA rfl rfl Try.underlying30 sz5_1 (by omega) rfl ?_
  first | refine stb H rfl rfl sc5 (by omega) (by first | decide | (simp only [List.length_set, List.length_cons, List.length_nil, List.length_replicate, List.length_append, Bs_length]; omega) | omega) (by omega) ?_ | refine st (v := .int .u8 _) H rfl rfl sc5 rfl (by first | decide | (simp only [List.length_set, List.length_cons, List.length_nil, List.length_replicate, List.length_append, Bs_length]; omega) | omega) (by omega) ?_
  clear H; intro w4 H _
  refine nl ?_
  refine then_n ?_
  refine rg ?_
  refine mv (v := .slice _ _ _) rfl rfl ?_
  refine mv (v := .int .u32 _) rfl rfl ?_
  refine shrK (s := 24) (p := 16777216) rfl rfl (by decide) (by decide) rfl rfl ?_
  refine cvi rfl rfl Try.underlying5 (by first | exact w_u8 (by omega) | exact w_u8 (rng_u8 _) | exact m_u8 _) rfl ?_
  first | refine ia rfl rfl Try.underlying30 sz5_1 (by omega) rfl ?_ | refine iA rfl rfl Try.underlying30 sz5_1 (by omega) rfl ?_
  first | refine stb H rfl rfl sc5 (by omega) (by first | decide | (simp only [List.length_set, List.length_cons, List.length_nil, List.length_replicate, List.length_append, Bs_length]; omega) | omega) (by omega) ?_ | refine st (v := .int .u8 _) H rfl rfl sc5 rfl (by first | decide | (simp only [List.length_set, List.length_cons, List.length_nil, List.length_replicate, List.length_append, Bs_length]; omega) | omega) (by omega) ?_
  clear H; intro w5 H _
  refine nl ?_
  refine fin_n ?_
  refine ⟨rfl, pAt_len (by rw [leB_len]; omega), H.fr, ?_⟩
  have e := H.look (b := b)
  have e1 := setsL_eq (cur := cur) (es := leB 4 x) (o := o) (by rw [leB_len]; omega)
  rw [← e1, put4 _ _ _ hx]
  exact e

set_option maxRecDepth 100000 in
theorem c_writeAt (w : World) (bm bd L c k n c2 f2 : Nat) (x1 x3 : Value) (A : Option Addr) (T : TypeId) (ds xs : List UInt8) (hm : w.heap[bm]? = some (.cells [.slice (some ⟨bd, 0, none⟩) L c, x1, .bool false, x3].toArray 64 (0, 0))) (hd : w.heap[bd]? = some (.cells (Bs ds).toArray T (c, f2))) (hR : RB w A n xs) (hk : k + n ≤ L) (hL : L ≤ ds.length) (hLc : L ≤ c) (hn : 0 < n) (hc : L ≤ 1000000000) (hne : bm ≠ bd) : Calls Try.prog 57 #[.pointer (some ⟨bm, 0, none⟩), .slice A n c2, .int .i64 (k : Int)] w (Ret fun v w' => v = .tuple #[.int .i64 (n : Int), .nilIface] ∧ Fr [bd] w w' ∧ w'.heap[bd]? = some (.cells (Bs (pAt ds k xs)).toArray T (c, f2))) := by
  refine enter (fun ρ => .tuple #[ρ 6, ρ 7]) Try.func57 rfl rfl rfl (res2 rfl) ?_
  have H : SH w [bd] w [⟨bd, .cells (Bs ds).toArray T (c, f2), true⟩, ⟨bm, .cells [.slice (some ⟨bd, 0, none⟩) L c, x1, .bool false, x3].toArray 64 (0, 0), false⟩] := SH.init [bd] _ (by simp [hm, hd]) (by simp [hne.symm]) (by simp)
  have hRl := hR.1
  refine sq ?_
  refine rg ?_
  refine asg (v := .int .i64 _) rfl rfl ?_
  refine asg (v := .nilIface) rfl rfl ?_
  refine nl ?_
  refine then_n ?_
  refine sq ?_
  refine sq ?_
  refine rg ?_
  refine mv (v := .int .i64 _) rfl rfl ?_
  refine lss rfl rfl rfl ?_
  refine mv (v := .bool _) rfl rfl ?_
  first | refine spL (t := 10) (b := false) rfl ?_ | refine spF (t := 10) rfl (by omega) ?_   -- guard 1
  refine gy rfl ?_
  refine mv (v := .int .i64 _) rfl rfl ?_
  refine gy rfl ?_
  refine mv (v := .pointer _) rfl rfl ?_
  refine gy rfl ?_
  first | refine nc rfl rfl ?_ | refine nci rfl rfl ?_
  refine gy rfl ?_
  refine fa rfl fo64_0 rfl ?_
  refine gy rfl ?_
  first | refine ld H rfl sc30 rfl rfl ?_ | refine lc rfl (by first | assumption | exact H.fr.cell (by assumption) (by simp)) sc30 rfl ?_ | refine ld H rfl sc30 (by assumption) rfl ?_
  refine gy rfl ?_
  refine lnS rfl Try.underlying30 rfl ?_
  refine gy rfl ?_
  refine gtr rfl rfl rfl ?_
  refine pkF (v := .bool _) rfl rfl rfl ?_
  refine mv (v := .bool _) rfl rfl ?_
  first | refine spL (t := 19) (b := false) rfl ?_ | refine spF (t := 19) rfl (by omega) ?_   -- guard 2
  refine gy rfl ?_
  refine mv (v := .slice _ _ _) rfl rfl ?_
  refine gy rfl ?_
  refine lnS rfl Try.underlying30 rfl ?_
  refine gy rfl ?_
  refine mv (v := .pointer _) rfl rfl ?_
  refine gy rfl ?_
  first | refine nc rfl rfl ?_ | refine nci rfl rfl ?_
  refine gy rfl ?_
  refine fa rfl fo64_0 rfl ?_
  refine gy rfl ?_
  first | refine ld H rfl sc30 rfl rfl ?_ | refine lc rfl (by first | assumption | exact H.fr.cell (by assumption) (by simp)) sc30 rfl ?_ | refine ld H rfl sc30 (by assumption) rfl ?_
  refine gy rfl ?_
  refine lnS rfl Try.underlying30 rfl ?_
  refine gy rfl ?_
  refine mv (v := .int .i64 _) rfl rfl ?_
  refine gy rfl ?_
  refine sub rfl rfl (by first | exact w_i64 (by omega) | exact w_i64 (rng_i64 _) | rfl) rfl ?_
  refine gy rfl ?_
  refine gtr rfl rfl rfl ?_
  refine pkF (v := .bool _) rfl rfl rfl ?_
  refine nl ?_
  refine then_n ?_
  first | refine cF rfl (by omega) ?_ | refine cbF rfl (by omega) ?_   -- test 1
  refine sk ?_
  refine then_n ?_
  refine sq ?_
  refine sq ?_
  refine rg ?_
  refine mv (v := .pointer _) rfl rfl ?_
  first | refine nc rfl rfl ?_ | refine nci rfl rfl ?_
  refine fa rfl fo64_2 rfl ?_
  first | refine ld H rfl sc4 rfl rfl ?_ | refine lc rfl (by first | assumption | exact H.fr.cell (by assumption) (by simp)) sc4 rfl ?_ | refine ld H rfl sc4 (by assumption) rfl ?_
  refine nl ?_
  refine then_n ?_
  first | refine cF rfl rfl ?_ | refine cbF rfl rfl ?_   -- test 2
  refine sk ?_
  refine then_n ?_
  refine sq ?_
  refine rg ?_
  refine mv (v := .pointer _) rfl rfl ?_
  first | refine nc rfl rfl ?_ | refine nci rfl rfl ?_
  refine fa rfl fo64_0 rfl ?_
  first | refine ld H rfl sc30 rfl rfl ?_ | refine lc rfl (by first | assumption | exact H.fr.cell (by assumption) (by simp)) sc30 rfl ?_ | refine ld H rfl sc30 (by assumption) rfl ?_
  refine mv (v := .int .i64 _) rfl rfl ?_
  refine sll rfl rfl Try.underlying30 sz5_1 (by first | trivial | omega | (simp; omega)) rfl ?_
  refine mv (v := .slice _ _ _) rfl rfl ?_
  refine cpB H rfl rfl Try.underlying30 sz5_1 hR (by omega) (by omega) rfl ?_
  clear H; intro w1 H _
  refine asg (v := .int .i64 _) rfl rfl ?_
  refine asg (v := .nilIface) rfl rfl ?_
  refine nl ?_
  refine then_n ?_
  refine rt ?_
  refine fin_r ?_
  have e := H.look (b := bd)
  have e0 : 0 + (k : Int).toNat * 1 = k := by omega
  have e1 : min n (L - (k : Int).toNat) = n := by rw [Int.toNat_natCast]; omega
  refine ⟨?_, H.fr, ?_⟩
  · show Value.tuple #[.int .i64 ((min n (L - (k : Int).toNat) : Nat) : Int), .nilIface] = _
    rw [e1]
  rw [e, e0, e1]
  unfold pAt
  rw [hRl, List.take_of_length_le (l := xs) (by omega)]

set_option maxRecDepth 100000 in
theorem c_le (w : World) (b o n c : Nat) (T : TypeId) (fr : Nat × Nat) (cur : List UInt8) (hb : w.heap[b]? = some (.cells (Bs cur).toArray T fr)) (ho : o + n ≤ cur.length) (hn : n ≤ 8) : Calls Try.prog 22 #[.slice (some ⟨b, o, none⟩) n c] w (Ret fun v w' => v = .int .u64 (leV ((cur.drop o).take n)) ∧ Fr [] w w') := by
  refine enter (fun ρ => ρ 2) Try.func22 rfl rfl rfl (res1 rfl) ?_
  have H := SH.ro1 hb
  refine sq ?_
  refine rg ?_
  refine asg (v := .int .u64 _) rfl rfl ?_
  refine nl ?_
  refine then_n ?_
  refine sq ?_
  refine rg ?_
  refine asg (v := .int .u64 _) rfl rfl ?_
  refine nl ?_
  refine then_n ?_
  refine sq ?_
  refine sq ?_
  refine rg ?_
  refine mv (v := .slice _ _ _) rfl rfl ?_
  refine lnS rfl Try.underlying30 rfl ?_
  refine sub rfl rfl (by first | exact w_i64 (by omega) | exact w_i64 (rng_i64 _) | rfl) rfl ?_
  refine asg (v := .int .i64 _) rfl rfl ?_
  refine nl ?_
  refine then_n ?_
  refine bk ?_
  refine lpM (α := Nat × Int) [3, 4, 8, 9, 10, 11, 12, 13, 14, 15, 16, 17, 18, 19] (fun (i, y) => [(3, .int .u64 y), (4, .int .i64 ((i : Int) - 1))]) (fun (i, y) w' => i ≤ n ∧ y = leV (((cur.drop o).take n).drop i) ∧ SH w [] w' [⟨b, .cells (Bs cur).toArray T fr, false⟩]) (fun (i, y) => i) (n, 0) ?_ (fC (by first | rfl | exact congrArg (Value.int _) (by first | omega | assumption | (symm; assumption) | (simp; done) | (simp; omega)) | exact congrArg (fun n => Value.slice _ n _) (by first | simp; done | simp; omega)) (fC (by first | rfl | exact congrArg (Value.int _) (by first | omega | assumption | (symm; assumption) | (simp; done) | (simp; omega)) | exact congrArg (fun n => Value.slice _ n _) (by first | simp; done | simp; omega)) (fN _))) ?_   -- loop 1
  · exact ⟨by omega, by rw [List.drop_of_length_le (by simp; omega)]; rfl, H⟩
  · rintro ⟨i, y⟩ ρx w1 ⟨hi, hy, H⟩
    refine sq ?_
    refine sq ?_
    refine rg ?_
    refine mv (v := .int .i64 _) rfl rfl ?_
    refine geq rfl rfl rfl ?_
    refine nl ?_
    refine then_n ?_
    first | refine cd rfl (fun hc1 => ?_) (fun hc1 => ?_) | refine cn rfl (fun hc1 => ?_) (fun hc1 => ?_)   -- test 1
    · have hl7 : (((cur.drop o).take n).drop i).length ≤ 7 := by simp; omega
      have hyr := leV_le7 hl7
      rw [← hy] at hyr
      have hnl : ((cur.drop o).take n).length = n := by simp; omega
      have hst := leV_at (l := (cur.drop o).take n) (i := i - 1) (by omega)
      rw [show i - 1 + 1 = i by omega, ← hy] at hst
      have hgd : ((cur.drop o).take n).getD (i - 1) 0 = cur.getD (o + ((i : Int) - 1).toNat * 1) 0 := by
        rw [show o + ((i : Int) - 1).toNat * 1 = o + (i - 1) by omega]
        simp [List.getD_eq_getElem?_getD, List.getElem?_take, show i - 1 < n by omega]
      rw [hgd] at hst
      refine sk ?_
      refine then_n ?_
      refine sq ?_
      refine bk ?_
      refine rg ?_
      refine mv (v := .int .u64 _) rfl rfl ?_
      refine shlK (s := 8) (p := 256) rfl rfl (by decide) (by decide) (by first | exact w_u64 (by omega) | exact w_u64 (rng_u64 _) | exact m_u64 _) rfl ?_
      refine mv (v := .slice _ _ _) rfl rfl ?_
      refine mv (v := .int .i64 _) rfl rfl ?_
      first | refine ia rfl rfl Try.underlying30 sz5_1 (by omega) rfl ?_ | refine iA rfl rfl Try.underlying30 sz5_1 (by omega) rfl ?_
      first | (refine ldb H rfl sc5 (by omega) rfl ?_; intro hu1) | refine ld H rfl sc5 rfl rfl ?_ | refine lc rfl (by assumption) sc5 rfl ?_
      refine cvi rfl rfl Try.underlying46 (by first | exact w_u64 (by omega) | exact w_u64 (rng_u64 _) | exact m_u64 _) rfl ?_
      refine bor (c := leV (((cur.drop o).take n).drop (i - 1))) rfl rfl ((or64 hyr (UInt8.toNat_lt _)).trans hst.symm) rfl ?_
      refine asg (v := .int .u64 _) rfl rfl ?_
      refine nl ?_
      refine in_n ?_
      refine then_n ?_
      refine rg ?_
      refine mv (v := .int .i64 _) rfl rfl ?_
      refine sub rfl rfl (by first | exact w_i64 (by omega) | exact w_i64 (rng_i64 _) | rfl) rfl ?_
      refine asg (v := .int .i64 _) rfl rfl ?_
      refine nl ?_
      refine loop_n ?_
      exact ⟨(i - 1, leV (((cur.drop o).take n).drop (i - 1))), (by (try dsimp only); omega), ⟨by omega, rfl, H⟩, (fC (by first | rfl | exact congrArg (Value.int _) (by first | omega | assumption | (symm; assumption) | (simp; done) | (simp; omega)) | exact congrArg (fun n => Value.slice _ n _) (by first | simp; done | simp; omega)) (fC (by first | rfl | exact congrArg (Value.int _) (by first | omega | assumption | (symm; assumption) | (simp; done) | (simp; omega)) | exact congrArg (fun n => Value.slice _ n _) (by first | simp; done | simp; omega)) (fN _))), (by repeat (first | exact Agree.setL rfl Agree.mask | exact Agree.self _ _ | refine Agree.upd rfl ?_ | refine Agree.setL rfl ?_ | refine Agree.mask2 rfl ?_))⟩
    · refine ex ?_
      refine then_e ?_
      refine loop_e ?_
      refine in_hit rfl ?_
      refine then_n ?_
      refine sq ?_
      refine rg ?_
      refine mv (v := .int .u64 _) rfl rfl ?_
      refine asg (v := .int .u64 _) rfl rfl ?_
      refine nl ?_
      refine then_n ?_
      refine rt ?_
      refine fin_r ?_
      obtain rfl : i = 0 := by omega
      exact ⟨congrArg (Value.int .u64) hy, H.fr⟩

end Go.Proofs.Ytdoiddkogigppaa.X
