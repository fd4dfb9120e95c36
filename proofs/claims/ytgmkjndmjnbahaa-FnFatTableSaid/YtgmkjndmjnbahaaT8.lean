/- Walks of functions, printed by a program of this claim. -/
import Derived.Test.YtgmkjndmjnbahaaT7
namespace Go.Proofs.Ytgmkjndmjnbahaa.X
set_option linter.unusedVariables false
set_option linter.unusedSimpArgs false
open Go Go.RowKit

namespace T8
theorem ca33 : callable Try.prog 33 = true := by kernel_rfl
theorem ca41 : callable Try.prog 41 = true := by kernel_rfl
theorem ca46 : callable Try.prog 46 = true := by kernel_rfl
theorem ca54 : callable Try.prog 54 = true := by kernel_rfl
theorem ca59 : callable Try.prog 59 = true := by kernel_rfl
theorem ca67 : callable Try.prog 67 = true := by kernel_rfl
theorem ca8 : callable Try.prog 8 = true := by kernel_rfl
theorem me44_Bytes : ∀ (v : Value) (w : World), (method (Try.prog.types.size + Made.depth) 44 v "Bytes").run Try.prog w = .ok (33, v) w := fun v w => by kernel_rfl
theorem me44_SetCluster : ∀ (v : Value) (w : World), (method (Try.prog.types.size + Made.depth) 44 v "SetCluster").run Try.prog w = .ok (41, v) w := fun v w => by kernel_rfl
theorem me46_Bytes : ∀ (v : Value) (w : World), (method (Try.prog.types.size + Made.depth) 46 v "Bytes").run Try.prog w = .ok (46, v) w := fun v w => by kernel_rfl
theorem me46_SetCluster : ∀ (v : Value) (w : World), (method (Try.prog.types.size + Made.depth) 46 v "SetCluster").run Try.prog w = .ok (54, v) w := fun v w => by kernel_rfl
theorem me48_Bytes : ∀ (v : Value) (w : World), (method (Try.prog.types.size + Made.depth) 48 v "Bytes").run Try.prog w = .ok (59, v) w := fun v w => by kernel_rfl
theorem me48_SetCluster : ∀ (v : Value) (w : World), (method (Try.prog.types.size + Made.depth) 48 v "SetCluster").run Try.prog w = .ok (67, v) w := fun v w => by kernel_rfl
theorem sc24 : scalarB Try.prog 24 = true := by kernel_rfl
theorem sz24_1 : sizeB Try.prog 24 1 = true := by kernel_rfl

end T8
open T8

theorem na12 (b : Nat) : ∀ (w : World), (nilAhead (Try.prog.types.size + Made.depth) 44 (.pointer (some ⟨b, 0, none⟩)) "SetCluster").run Try.prog w = .ok (some false) w := fun w => by kernel_rfl

set_option maxRecDepth 100000 in
set_option maxHeartbeats 2000000 in
theorem c_FatTable12 (w : World) (n cap : Nat) (f : Nat → Int) (ad : Addr) (hn : 2 ≤ n ∧ n ≤ 300) (hv : ∀ i, 2 ≤ i → i < n → 0 ≤ f i ∧ f i ≤ 4095) (hrow : ∀ j, 2 ≤ j → j < n → w.cell? (ad.add j) = some (.int .u32 (f j))) : Calls Try.prog 5 #[.int .i64 12, .slice (some ad) n cap] w (Ret fun v w' => v = .string (str (b12 ((n * 3 + 1) / 2) (gI f n) (n + 1))) ∧ Fr [] w w') := by
  refine enter (fun ρ => ρ 4) Try.func5 rfl rfl rfl (res1 rfl) ?_
  have H := SH.nil w
  have hbl := b12_len ((n * 3 + 1) / 2) (gI f n) (n + 1)
  refine sq ?_
  refine rg ?_
  refine asg (v := .string _) rfl rfl ?_
  refine nl ?_
  refine then_n ?_
  refine sq ?_
  refine rg ?_
  refine mv (v := .int .i64 _) rfl rfl ?_
  refine mv (v := .slice _ _ _) rfl rfl ?_
  refine lnS rfl Try.underlying22 rfl ?_
  refine cl ca8 (c_fatTable12 _ n hn) rfl ?_
  rintro _ w1 ⟨t, c, rfl, K⟩
  replace H := H.join K (by simp); simp only [List.cons_append, List.nil_append] at H; clear K
  have hne : t ≠ c := H.ne_of rfl (y := ⟨c, _, true⟩) (.head _)
  refine mv (v := .tuple _) rfl rfl ?_
  refine xt rfl rfl rfl ?_
  refine xt rfl rfl rfl ?_
  first | refine asg (v := .nilIface) rfl rfl ?_ | refine asg (v := .iface _ _) rfl rfl ?_ | refine asg rfl rfl ?_
  refine asg (v := .bool _) rfl rfl ?_
  refine nl ?_
  refine then_n ?_
  refine sq ?_
  refine sq ?_
  refine rg ?_
  refine mv (v := .bool _) rfl rfl ?_
  refine unot rfl rfl ?_
  refine nl ?_
  refine then_n ?_
  first | refine cF rfl rfl ?_ | refine cbF rfl rfl ?_   -- test 1
  refine sk ?_
  refine then_n ?_
  refine sq ?_
  refine sq ?_
  refine rg ?_
  refine asg (v := .int .i64 _) rfl rfl ?_
  refine nl ?_
  refine then_n ?_
  refine bk ?_
  refine lpM (α := Nat) [7, 17, 18, 19, 20, 21, 22, 23, 24, 25, 26, 27, 28, 29, 30, 31, 32, 33] (fun i => [(7, .int .i64 (i : Int))]) (fun i w' => (2 ≤ i ∧ i ≤ n) ∧ SH w [] w' [⟨t, .cells ([.int .u32 (4088), .int .u32 4095, .int .u32 0, .slice (some ⟨c, 0, none⟩) (n + 1) (n + 1), .int .u32 ((n : Nat) : Int), .int .u32 ((((n * 3 + 1) / 2) : Nat) : Int)] : List Value).toArray 52 (0, 0), true⟩, ⟨c, .cells (clR .u32 (n + 1) (gI f (i))).toArray 24 (0, 0), true⟩]) (fun i => n - i) 2 ?_ (fC (by first | rfl | exact congrArg (Value.int _) (by first | omega | assumption | (symm; assumption) | (simp; done) | (simp; omega)) | exact congrArg (fun n => Value.slice _ n _) (by first | omega | (simp; done) | (simp; omega))) (fN _)) ?_   -- loop 1
  · exact ⟨⟨by omega, by omega⟩, by rw [gI_zero]; exact H⟩
  · rintro i ρx w2 ⟨hi, H⟩
    refine sq ?_
    refine sq ?_
    refine rg ?_
    refine mv (v := .int .i64 _) rfl rfl ?_
    refine mv (v := .slice _ _ _) rfl rfl ?_
    refine lnS rfl Try.underlying22 rfl ?_
    refine lss rfl rfl rfl ?_
    refine nl ?_
    refine then_n ?_
    first | refine cd rfl (fun hc2 => ?_) (fun hc2 => ?_) | refine cn rfl (fun hc2 => ?_) (fun hc2 => ?_)   -- test 2
    · refine sk ?_
      refine then_n ?_
      refine sq ?_
      refine bk ?_
      refine dr (by kernel_rfl) ?_   -- region 7
      have H := H.drew
      refine hold (fun _ => True) [] ?_
      first | refine tk (i := 0) rfl (by kernel_rfl) rfl trivial (fun _ _ => r_mv (v := .nilIface) rfl) ?_ | refine tk (i := 0) rfl (by kernel_rfl) rfl trivial (fun _ _ => r_mv (v := .iface _ _) rfl) ?_ | refine tk (i := 0) rfl (by kernel_rfl) rfl trivial (fun _ _ => r_mv rfl) ?_
      refine tk (i := 1) rfl (by kernel_rfl) rfl trivial (fun _ _ => r_mv (v := .int .i64 _) rfl) ?_
      refine tk (i := 2) rfl (by kernel_rfl) rfl trivial (fun _ _ => r_cvi rfl rfl Try.underlying24 (by first | exact w_u32 (by omega) | exact w_u32 (rng_u32 _) | exact m_u32 _)) ?_
      refine tk (i := 3) rfl (by kernel_rfl) rfl trivial (fun _ _ => r_mv (v := .slice _ _ _) rfl) ?_
      refine tk (i := 4) rfl (by kernel_rfl) rfl trivial (fun _ _ => r_mv (v := .int .i64 _) rfl) ?_
      refine tk (i := 5) rfl (by kernel_rfl) rfl trivial (fun _ _ => r_iBN (ad.add i) rfl rfl Try.underlying22 sz24_1 (by omega) (by simp)) ?_
      refine unfree ?_
      refine holdH H [10] ?_
      refine tk (i := 6) rfl (by kernel_rfl) rfl H (fun w' H => r_lc (v := .int .u32 (f i)) rfl (H.fr.cell (hrow i hi.1 (by omega)) (by simp)) sc24) ?_
      refine fk (i := 7) (by kernel_rfl) rfl rfl rfl ?_
      refine mkM [.iface _ _] rfl rfl ?_
      refine nl ?_
      refine then_n ?_
      refine ⟨H, ?_⟩
      refine fk (i := 8) (by kernel_rfl) rfl rfl rfl ?_
      refine ncm rfl (na12 t) rfl ?_
      refine nl ?_
      refine then_n ?_
      refine ⟨H, ?_⟩
      first | refine tk (i := 9) rfl (by kernel_rfl) rfl H (fun w' H => r_mv (v := .nilIface) rfl) ?_ | refine tk (i := 9) rfl (by kernel_rfl) rfl H (fun w' H => r_mv (v := .iface _ _) rfl) ?_ | refine tk (i := 9) rfl (by kernel_rfl) rfl H (fun w' H => r_mv rfl) ?_
      refine fb (i := 10) (by kernel_rfl) rfl rfl rfl ?_
      refine mc rfl me44_SetCluster ca41 (c_set12 _ t c n i (f i) (gI f i) (by omega) hne (H.look (b := t)) (H.look (b := c))) rfl ?_
      rintro _ w3 ⟨rfl, F, hnew⟩
      replace H := H.put (b := c) F hnew; clear F hnew
      refine nl ?_
      refine then_n ?_
      refine dn (by kernel_rfl) ?_
      refine in_n ?_
      refine then_n ?_
      refine rg ?_
      refine mv (v := .int .i64 _) rfl rfl ?_
      refine add rfl rfl (by first | exact w_i64 (by omega) | exact w_i64 (rng_i64 _) | rfl) rfl ?_
      refine asg (v := .int .i64 _) rfl rfl ?_
      refine nl ?_
      refine loop_n ?_
      exact ⟨i + 1, (by (try dsimp only); omega), ⟨by omega, by rw [← gI_next hi.1]; exact H⟩, (fC (by first | rfl | exact congrArg (Value.int _) (by first | omega | assumption | (symm; assumption) | (simp; done) | (simp; omega)) | exact congrArg (fun n => Value.slice _ n _) (by first | omega | (simp; done) | (simp; omega))) (fN _)), (by repeat (first | exact Agree.setL rfl Agree.mask | exact Agree.self _ _ | refine Agree.upd rfl ?_ | refine Agree.setL rfl ?_ | refine Agree.mask2 rfl ?_))⟩
    · obtain rfl : i = n := by omega
      refine ex ?_
      refine then_e ?_
      refine loop_e ?_
      refine in_hit rfl ?_
      refine then_n ?_
      refine sq ?_
      refine rg ?_
      first | refine mv (v := .nilIface) rfl rfl ?_ | refine mv (v := .iface _ _) rfl rfl ?_ | refine mv rfl rfl ?_
      refine mc rfl me44_Bytes ca33 (c_bytes12 _ t c i (gI f i) hn (gI_rng hv) (gI_out (by omega)) (H.look (b := t)) (H.look (b := c))) rfl ?_
      rintro _ w4 ⟨q, rfl, K⟩
      replace H := H.join K (by simp); simp only [List.cons_append, List.nil_append] at H; clear K
      refine cvBS rfl (by exact RB.allm (b := q) H hbl) Try.underlying36 Try.underlying5 Try.underlying9 rfl ?_
      refine asg (v := .string _) rfl rfl ?_
      refine nl ?_
      refine then_n ?_
      refine rt ?_
      refine fin_r ?_
      exact ⟨rfl, H.fr⟩

theorem na16 (b : Nat) : ∀ (w : World), (nilAhead (Try.prog.types.size + Made.depth) 46 (.pointer (some ⟨b, 0, none⟩)) "SetCluster").run Try.prog w = .ok (some false) w := fun w => by kernel_rfl

set_option maxRecDepth 100000 in
set_option maxHeartbeats 2000000 in
theorem c_FatTable16 (w : World) (n cap : Nat) (f : Nat → Int) (ad : Addr) (hn : 2 ≤ n ∧ n ≤ 300) (hv : ∀ i, 2 ≤ i → i < n → 0 ≤ f i ∧ f i ≤ 65535) (hrow : ∀ j, 2 ≤ j → j < n → w.cell? (ad.add j) = some (.int .u32 (f j))) : Calls Try.prog 5 #[.int .i64 16, .slice (some ad) n cap] w (Ret fun v w' => v = .string (str (wB 2 n (fI 65528 65535 (gI f n) n))) ∧ Fr [] w w') := by
  refine enter (fun ρ => ρ 4) Try.func5 rfl rfl rfl (res1 rfl) ?_
  have H := SH.nil w
  have hbl := wB_len 2 (fI 65528 65535 (gI f n) n) n
  refine sq ?_
  refine rg ?_
  refine asg (v := .string _) rfl rfl ?_
  refine nl ?_
  refine then_n ?_
  refine sq ?_
  refine rg ?_
  refine mv (v := .int .i64 _) rfl rfl ?_
  refine mv (v := .slice _ _ _) rfl rfl ?_
  refine lnS rfl Try.underlying22 rfl ?_
  refine cl ca8 (c_fatTable16 _ n hn) rfl ?_
  rintro _ w1 ⟨t, c, rfl, K⟩
  replace H := H.join K (by simp); simp only [List.cons_append, List.nil_append] at H; clear K
  have hne : t ≠ c := H.ne_of rfl (y := ⟨c, _, true⟩) (.head _)
  refine mv (v := .tuple _) rfl rfl ?_
  refine xt rfl rfl rfl ?_
  refine xt rfl rfl rfl ?_
  first | refine asg (v := .nilIface) rfl rfl ?_ | refine asg (v := .iface _ _) rfl rfl ?_ | refine asg rfl rfl ?_
  refine asg (v := .bool _) rfl rfl ?_
  refine nl ?_
  refine then_n ?_
  refine sq ?_
  refine sq ?_
  refine rg ?_
  refine mv (v := .bool _) rfl rfl ?_
  refine unot rfl rfl ?_
  refine nl ?_
  refine then_n ?_
  first | refine cF rfl rfl ?_ | refine cbF rfl rfl ?_   -- test 1
  refine sk ?_
  refine then_n ?_
  refine sq ?_
  refine sq ?_
  refine rg ?_
  refine asg (v := .int .i64 _) rfl rfl ?_
  refine nl ?_
  refine then_n ?_
  refine bk ?_
  refine lpM (α := Nat) [7, 17, 18, 19, 20, 21, 22, 23, 24, 25, 26, 27, 28, 29, 30, 31, 32, 33] (fun i => [(7, .int .i64 (i : Int))]) (fun i w' => (2 ≤ i ∧ i ≤ n) ∧ SH w [] w' [⟨t, .cells ([.int .u32 (65528), .int .u32 65535, .slice (some ⟨c, 0, none⟩) (n + 1) (n + 1), .int .u32 ((n : Nat) : Int), .int .u32 (((n * 2) : Nat) : Int)] : List Value).toArray 54 (0, 0), true⟩, ⟨c, .cells (clR .u32 (n + 1) (gI f (i))).toArray 24 (0, 0), true⟩]) (fun i => n - i) 2 ?_ (fC (by first | rfl | exact congrArg (Value.int _) (by first | omega | assumption | (symm; assumption) | (simp; done) | (simp; omega)) | exact congrArg (fun n => Value.slice _ n _) (by first | omega | (simp; done) | (simp; omega))) (fN _)) ?_   -- loop 1
  · exact ⟨⟨by omega, by omega⟩, by rw [gI_zero]; exact H⟩
  · rintro i ρx w2 ⟨hi, H⟩
    refine sq ?_
    refine sq ?_
    refine rg ?_
    refine mv (v := .int .i64 _) rfl rfl ?_
    refine mv (v := .slice _ _ _) rfl rfl ?_
    refine lnS rfl Try.underlying22 rfl ?_
    refine lss rfl rfl rfl ?_
    refine nl ?_
    refine then_n ?_
    first | refine cd rfl (fun hc2 => ?_) (fun hc2 => ?_) | refine cn rfl (fun hc2 => ?_) (fun hc2 => ?_)   -- test 2
    · refine sk ?_
      refine then_n ?_
      refine sq ?_
      refine bk ?_
      refine dr (by kernel_rfl) ?_   -- region 7
      have H := H.drew
      refine hold (fun _ => True) [] ?_
      first | refine tk (i := 0) rfl (by kernel_rfl) rfl trivial (fun _ _ => r_mv (v := .nilIface) rfl) ?_ | refine tk (i := 0) rfl (by kernel_rfl) rfl trivial (fun _ _ => r_mv (v := .iface _ _) rfl) ?_ | refine tk (i := 0) rfl (by kernel_rfl) rfl trivial (fun _ _ => r_mv rfl) ?_
      refine tk (i := 1) rfl (by kernel_rfl) rfl trivial (fun _ _ => r_mv (v := .int .i64 _) rfl) ?_
      refine tk (i := 2) rfl (by kernel_rfl) rfl trivial (fun _ _ => r_cvi rfl rfl Try.underlying24 (by first | exact w_u32 (by omega) | exact w_u32 (rng_u32 _) | exact m_u32 _)) ?_
      refine tk (i := 3) rfl (by kernel_rfl) rfl trivial (fun _ _ => r_mv (v := .slice _ _ _) rfl) ?_
      refine tk (i := 4) rfl (by kernel_rfl) rfl trivial (fun _ _ => r_mv (v := .int .i64 _) rfl) ?_
      refine tk (i := 5) rfl (by kernel_rfl) rfl trivial (fun _ _ => r_iBN (ad.add i) rfl rfl Try.underlying22 sz24_1 (by omega) (by simp)) ?_
      refine unfree ?_
      refine holdH H [10] ?_
      refine tk (i := 6) rfl (by kernel_rfl) rfl H (fun w' H => r_lc (v := .int .u32 (f i)) rfl (H.fr.cell (hrow i hi.1 (by omega)) (by simp)) sc24) ?_
      refine fk (i := 7) (by kernel_rfl) rfl rfl rfl ?_
      refine mkM [.iface _ _] rfl rfl ?_
      refine nl ?_
      refine then_n ?_
      refine ⟨H, ?_⟩
      refine fk (i := 8) (by kernel_rfl) rfl rfl rfl ?_
      refine ncm rfl (na16 t) rfl ?_
      refine nl ?_
      refine then_n ?_
      refine ⟨H, ?_⟩
      first | refine tk (i := 9) rfl (by kernel_rfl) rfl H (fun w' H => r_mv (v := .nilIface) rfl) ?_ | refine tk (i := 9) rfl (by kernel_rfl) rfl H (fun w' H => r_mv (v := .iface _ _) rfl) ?_ | refine tk (i := 9) rfl (by kernel_rfl) rfl H (fun w' H => r_mv rfl) ?_
      refine fb (i := 10) (by kernel_rfl) rfl rfl rfl ?_
      refine mc rfl me46_SetCluster ca54 (c_set16 _ t c n i (f i) (gI f i) (by omega) hne (H.look (b := t)) (H.look (b := c))) rfl ?_
      rintro _ w3 ⟨rfl, F, hnew⟩
      replace H := H.put (b := c) F hnew; clear F hnew
      refine nl ?_
      refine then_n ?_
      refine dn (by kernel_rfl) ?_
      refine in_n ?_
      refine then_n ?_
      refine rg ?_
      refine mv (v := .int .i64 _) rfl rfl ?_
      refine add rfl rfl (by first | exact w_i64 (by omega) | exact w_i64 (rng_i64 _) | rfl) rfl ?_
      refine asg (v := .int .i64 _) rfl rfl ?_
      refine nl ?_
      refine loop_n ?_
      exact ⟨i + 1, (by (try dsimp only); omega), ⟨by omega, by rw [← gI_next hi.1]; exact H⟩, (fC (by first | rfl | exact congrArg (Value.int _) (by first | omega | assumption | (symm; assumption) | (simp; done) | (simp; omega)) | exact congrArg (fun n => Value.slice _ n _) (by first | omega | (simp; done) | (simp; omega))) (fN _)), (by repeat (first | exact Agree.setL rfl Agree.mask | exact Agree.self _ _ | refine Agree.upd rfl ?_ | refine Agree.setL rfl ?_ | refine Agree.mask2 rfl ?_))⟩
    · obtain rfl : i = n := by omega
      refine ex ?_
      refine then_e ?_
      refine loop_e ?_
      refine in_hit rfl ?_
      refine then_n ?_
      refine sq ?_
      refine rg ?_
      first | refine mv (v := .nilIface) rfl rfl ?_ | refine mv (v := .iface _ _) rfl rfl ?_ | refine mv rfl rfl ?_
      refine mc rfl me46_Bytes ca46 (c_bytes16 _ t c i (gI f i) hn (gI_rng hv) (H.look (b := t)) (H.look (b := c))) rfl ?_
      rintro _ w4 ⟨q, rfl, K⟩
      replace H := H.join K (by simp); simp only [List.cons_append, List.nil_append] at H; clear K
      refine cvBS rfl (by exact RB.allm (b := q) H hbl) Try.underlying36 Try.underlying5 Try.underlying9 rfl ?_
      refine asg (v := .string _) rfl rfl ?_
      refine nl ?_
      refine then_n ?_
      refine rt ?_
      refine fin_r ?_
      exact ⟨rfl, H.fr⟩

theorem na32 (b : Nat) : ∀ (w : World), (nilAhead (Try.prog.types.size + Made.depth) 48 (.pointer (some ⟨b, 0, none⟩)) "SetCluster").run Try.prog w = .ok (some false) w := fun w => by kernel_rfl

set_option maxRecDepth 100000 in
set_option maxHeartbeats 2000000 in
theorem c_FatTable32 (w : World) (n cap : Nat) (f : Nat → Int) (ad : Addr) (hn : 2 ≤ n ∧ n ≤ 300) (hv : ∀ i, 2 ≤ i → i < n → 0 ≤ f i ∧ f i ≤ 268435455) (hrow : ∀ j, 2 ≤ j → j < n → w.cell? (ad.add j) = some (.int .u32 (f j))) : Calls Try.prog 5 #[.int .i64 32, .slice (some ad) n cap] w (Ret fun v w' => v = .string (str (wB 4 n (fI 268435448 268435455 (gI f n) n))) ∧ Fr [] w w') := by
  refine enter (fun ρ => ρ 4) Try.func5 rfl rfl rfl (res1 rfl) ?_
  have H := SH.nil w
  have hbl := wB_len 4 (fI 268435448 268435455 (gI f n) n) n
  refine sq ?_
  refine rg ?_
  refine asg (v := .string _) rfl rfl ?_
  refine nl ?_
  refine then_n ?_
  refine sq ?_
  refine rg ?_
  refine mv (v := .int .i64 _) rfl rfl ?_
  refine mv (v := .slice _ _ _) rfl rfl ?_
  refine lnS rfl Try.underlying22 rfl ?_
  refine cl ca8 (c_fatTable32 _ n hn) rfl ?_
  rintro _ w1 ⟨t, c, rfl, K⟩
  replace H := H.join K (by simp); simp only [List.cons_append, List.nil_append] at H; clear K
  have hne : t ≠ c := H.ne_of rfl (y := ⟨c, _, true⟩) (.head _)
  refine mv (v := .tuple _) rfl rfl ?_
  refine xt rfl rfl rfl ?_
  refine xt rfl rfl rfl ?_
  first | refine asg (v := .nilIface) rfl rfl ?_ | refine asg (v := .iface _ _) rfl rfl ?_ | refine asg rfl rfl ?_
  refine asg (v := .bool _) rfl rfl ?_
  refine nl ?_
  refine then_n ?_
  refine sq ?_
  refine sq ?_
  refine rg ?_
  refine mv (v := .bool _) rfl rfl ?_
  refine unot rfl rfl ?_
  refine nl ?_
  refine then_n ?_
  first | refine cF rfl rfl ?_ | refine cbF rfl rfl ?_   -- test 1
  refine sk ?_
  refine then_n ?_
  refine sq ?_
  refine sq ?_
  refine rg ?_
  refine asg (v := .int .i64 _) rfl rfl ?_
  refine nl ?_
  refine then_n ?_
  refine bk ?_
  refine lpM (α := Nat) [7, 17, 18, 19, 20, 21, 22, 23, 24, 25, 26, 27, 28, 29, 30, 31, 32, 33] (fun i => [(7, .int .i64 (i : Int))]) (fun i w' => (2 ≤ i ∧ i ≤ n) ∧ SH w [] w' [⟨t, .cells ([.int .u32 (268435448), .int .u32 268435455, .int .u32 0, .slice (some ⟨c, 0, none⟩) (n + 1) (n + 1), .int .u32 2, .int .u32 (((n * 4) : Nat) : Int), .int .u32 ((n : Nat) : Int)] : List Value).toArray 50 (0, 0), true⟩, ⟨c, .cells (clR .u32 (n + 1) (gI f (i))).toArray 24 (0, 0), true⟩]) (fun i => n - i) 2 ?_ (fC (by first | rfl | exact congrArg (Value.int _) (by first | omega | assumption | (symm; assumption) | (simp; done) | (simp; omega)) | exact congrArg (fun n => Value.slice _ n _) (by first | omega | (simp; done) | (simp; omega))) (fN _)) ?_   -- loop 1
  · exact ⟨⟨by omega, by omega⟩, by rw [gI_zero]; exact H⟩
  · rintro i ρx w2 ⟨hi, H⟩
    refine sq ?_
    refine sq ?_
    refine rg ?_
    refine mv (v := .int .i64 _) rfl rfl ?_
    refine mv (v := .slice _ _ _) rfl rfl ?_
    refine lnS rfl Try.underlying22 rfl ?_
    refine lss rfl rfl rfl ?_
    refine nl ?_
    refine then_n ?_
    first | refine cd rfl (fun hc2 => ?_) (fun hc2 => ?_) | refine cn rfl (fun hc2 => ?_) (fun hc2 => ?_)   -- test 2
    · refine sk ?_
      refine then_n ?_
      refine sq ?_
      refine bk ?_
      refine dr (by kernel_rfl) ?_   -- region 7
      have H := H.drew
      refine hold (fun _ => True) [] ?_
      first | refine tk (i := 0) rfl (by kernel_rfl) rfl trivial (fun _ _ => r_mv (v := .nilIface) rfl) ?_ | refine tk (i := 0) rfl (by kernel_rfl) rfl trivial (fun _ _ => r_mv (v := .iface _ _) rfl) ?_ | refine tk (i := 0) rfl (by kernel_rfl) rfl trivial (fun _ _ => r_mv rfl) ?_
      refine tk (i := 1) rfl (by kernel_rfl) rfl trivial (fun _ _ => r_mv (v := .int .i64 _) rfl) ?_
      refine tk (i := 2) rfl (by kernel_rfl) rfl trivial (fun _ _ => r_cvi rfl rfl Try.underlying24 (by first | exact w_u32 (by omega) | exact w_u32 (rng_u32 _) | exact m_u32 _)) ?_
      refine tk (i := 3) rfl (by kernel_rfl) rfl trivial (fun _ _ => r_mv (v := .slice _ _ _) rfl) ?_
      refine tk (i := 4) rfl (by kernel_rfl) rfl trivial (fun _ _ => r_mv (v := .int .i64 _) rfl) ?_
      refine tk (i := 5) rfl (by kernel_rfl) rfl trivial (fun _ _ => r_iBN (ad.add i) rfl rfl Try.underlying22 sz24_1 (by omega) (by simp)) ?_
      refine unfree ?_
      refine holdH H [10] ?_
      refine tk (i := 6) rfl (by kernel_rfl) rfl H (fun w' H => r_lc (v := .int .u32 (f i)) rfl (H.fr.cell (hrow i hi.1 (by omega)) (by simp)) sc24) ?_
      refine fk (i := 7) (by kernel_rfl) rfl rfl rfl ?_
      refine mkM [.iface _ _] rfl rfl ?_
      refine nl ?_
      refine then_n ?_
      refine ⟨H, ?_⟩
      refine fk (i := 8) (by kernel_rfl) rfl rfl rfl ?_
      refine ncm rfl (na32 t) rfl ?_
      refine nl ?_
      refine then_n ?_
      refine ⟨H, ?_⟩
      first | refine tk (i := 9) rfl (by kernel_rfl) rfl H (fun w' H => r_mv (v := .nilIface) rfl) ?_ | refine tk (i := 9) rfl (by kernel_rfl) rfl H (fun w' H => r_mv (v := .iface _ _) rfl) ?_ | refine tk (i := 9) rfl (by kernel_rfl) rfl H (fun w' H => r_mv rfl) ?_
      refine fb (i := 10) (by kernel_rfl) rfl rfl rfl ?_
      refine mc rfl me48_SetCluster ca67 (c_set32 _ t c n i (f i) (gI f i) (by omega) hne (H.look (b := t)) (H.look (b := c))) rfl ?_
      rintro _ w3 ⟨rfl, F, hnew⟩
      replace H := H.put (b := c) F hnew; clear F hnew
      refine nl ?_
      refine then_n ?_
      refine dn (by kernel_rfl) ?_
      refine in_n ?_
      refine then_n ?_
      refine rg ?_
      refine mv (v := .int .i64 _) rfl rfl ?_
      refine add rfl rfl (by first | exact w_i64 (by omega) | exact w_i64 (rng_i64 _) | rfl) rfl ?_
      refine asg (v := .int .i64 _) rfl rfl ?_
      refine nl ?_
      refine loop_n ?_
      exact ⟨i + 1, (by (try dsimp only); omega), ⟨by omega, by rw [← gI_next hi.1]; exact H⟩, (fC (by first | rfl | exact congrArg (Value.int _) (by first | omega | assumption | (symm; assumption) | (simp; done) | (simp; omega)) | exact congrArg (fun n => Value.slice _ n _) (by first | omega | (simp; done) | (simp; omega))) (fN _)), (by repeat (first | exact Agree.setL rfl Agree.mask | exact Agree.self _ _ | refine Agree.upd rfl ?_ | refine Agree.setL rfl ?_ | refine Agree.mask2 rfl ?_))⟩
    · obtain rfl : i = n := by omega
      refine ex ?_
      refine then_e ?_
      refine loop_e ?_
      refine in_hit rfl ?_
      refine then_n ?_
      refine sq ?_
      refine rg ?_
      first | refine mv (v := .nilIface) rfl rfl ?_ | refine mv (v := .iface _ _) rfl rfl ?_ | refine mv rfl rfl ?_
      refine mc rfl me48_Bytes ca59 (c_bytes32 _ t c i (gI f i) hn (gI_rng hv) (H.look (b := t)) (H.look (b := c))) rfl ?_
      rintro _ w4 ⟨q, rfl, K⟩
      replace H := H.join K (by simp); simp only [List.cons_append, List.nil_append] at H; clear K
      refine cvBS rfl (by exact RB.allm (b := q) H hbl) Try.underlying36 Try.underlying5 Try.underlying9 rfl ?_
      refine asg (v := .string _) rfl rfl ?_
      refine nl ?_
      refine then_n ?_
      refine rt ?_
      refine fin_r ?_
      exact ⟨rfl, H.fr⟩

end Go.Proofs.Ytgmkjndmjnbahaa.X
