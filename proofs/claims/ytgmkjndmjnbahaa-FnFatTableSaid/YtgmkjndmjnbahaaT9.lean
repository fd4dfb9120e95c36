/- Walks of functions, printed by a program of this claim. -/
import Derived.Test.YtgmkjndmjnbahaaT8
import Derived.Test.YtgmkjndmjnbahaaCallF
namespace Go.Proofs.Ytgmkjndmjnbahaa.X
set_option linter.unusedVariables false
set_option linter.unusedSimpArgs false
open Go Go.RowKit

namespace T9
theorem ca34 : callable Try.prog 34 = true := by kernel_rfl
theorem ca37 : callable Try.prog 37 = true := by kernel_rfl
theorem ca42 : callable Try.prog 42 = true := by kernel_rfl
theorem ca47 : callable Try.prog 47 = true := by kernel_rfl
theorem ca50 : callable Try.prog 50 = true := by kernel_rfl
theorem ca55 : callable Try.prog 55 = true := by kernel_rfl
theorem ca60 : callable Try.prog 60 = true := by kernel_rfl
theorem ca63 : callable Try.prog 63 = true := by kernel_rfl
theorem ca68 : callable Try.prog 68 = true := by kernel_rfl
theorem ca8 : callable Try.prog 8 = true := by kernel_rfl
theorem me44_ClusterValue : ∀ (v : Value) (w : World), (method (Try.prog.types.size + Made.depth) 44 v "ClusterValue").run Try.prog w = .ok (34, v) w := fun v w => by kernel_rfl
theorem me44_FromBytes : ∀ (v : Value) (w : World), (method (Try.prog.types.size + Made.depth) 44 v "FromBytes").run Try.prog w = .ok (37, v) w := fun v w => by kernel_rfl
theorem me44_Size : ∀ (v : Value) (w : World), (method (Try.prog.types.size + Made.depth) 44 v "Size").run Try.prog w = .ok (42, v) w := fun v w => by kernel_rfl
theorem me46_ClusterValue : ∀ (v : Value) (w : World), (method (Try.prog.types.size + Made.depth) 46 v "ClusterValue").run Try.prog w = .ok (47, v) w := fun v w => by kernel_rfl
theorem me46_FromBytes : ∀ (v : Value) (w : World), (method (Try.prog.types.size + Made.depth) 46 v "FromBytes").run Try.prog w = .ok (50, v) w := fun v w => by kernel_rfl
theorem me46_Size : ∀ (v : Value) (w : World), (method (Try.prog.types.size + Made.depth) 46 v "Size").run Try.prog w = .ok (55, v) w := fun v w => by kernel_rfl
theorem me48_ClusterValue : ∀ (v : Value) (w : World), (method (Try.prog.types.size + Made.depth) 48 v "ClusterValue").run Try.prog w = .ok (60, v) w := fun v w => by kernel_rfl
theorem me48_FromBytes : ∀ (v : Value) (w : World), (method (Try.prog.types.size + Made.depth) 48 v "FromBytes").run Try.prog w = .ok (63, v) w := fun v w => by kernel_rfl
theorem me48_Size : ∀ (v : Value) (w : World), (method (Try.prog.types.size + Made.depth) 48 v "Size").run Try.prog w = .ok (68, v) w := fun v w => by kernel_rfl
theorem ri24 : rowInfo Try.prog 24 = some ([.int .u32 0], 4) := by kernel_rfl
theorem sz24_1 : sizeB Try.prog 24 1 = true := by kernel_rfl
theorem ze24 : zeroL Try.prog 24 = some [.int .u32 0] := by kernel_rfl

end T9
open T9

set_option maxRecDepth 100000 in
set_option maxHeartbeats 2000000 in
theorem c_FatValues12 (w : World) (n : Nat) (f : Nat → Int) (hn : 2 ≤ n ∧ n ≤ 300) (hv : ∀ i, 2 ≤ i → i < n → 0 ≤ f i ∧ f i ≤ 4095) : Calls Try.prog 6 #[.int .i64 12, .string (str (b12 ((n * 3 + 1) / 2) (gI f n) (n + 1))), .int .i64 (n : Int)] w (Ret fun v w' => ∃ D cp, v = .slice D n cp ∧ (∀ j, j < n → ∃ ad, D = some ad ∧ w'.cell? (ad.add j) = some (.int .u32 (gI f n j))) ∧ Fr [] w w') := by
  refine enter (fun ρ => ρ 6) Try.func6 rfl rfl rfl (res1 rfl) ?_
  have H := SH.nil w
  have hbl := b12_len ((n * 3 + 1) / 2) (gI f n) (n + 1)
  have hsz := size_str (b12 ((n * 3 + 1) / 2) (gI f n) (n + 1))
  refine sq ?_
  refine rg ?_
  refine asg (v := .slice _ _ _) rfl rfl ?_
  refine nl ?_
  refine then_n ?_
  refine sq ?_
  refine rg ?_
  refine mv (v := .int .i64 _) rfl rfl ?_
  refine mv (v := .int .i64 _) rfl rfl ?_
  refine cl ca8 (c_fatTable12 _ n hn) rfl ?_
  rintro _ w1 ⟨t, c, rfl, K⟩
  replace H := H.join K (by simp); simp only [List.cons_append, List.nil_append] at H; clear K
  have hne : t ≠ c := H.ne_of rfl (y := ⟨c, _, true⟩) (.head _)
  refine mv (v := .tuple _) rfl rfl ?_
  refine xt rfl rfl rfl ?_
  refine xt rfl rfl rfl ?_
  first | refine asg (v := .nilIface) rfl rfl ?_ | refine asg (v := .iface _ _) rfl rfl ?_ | refine asg rfl rfl ?_
  refine asg (v := .bool _) rfl rfl ?_
  refine nl ?_
  refine then_n ?_
  refine sq ?_
  refine sq ?_
  refine rg ?_
  refine mv (v := .bool _) rfl rfl ?_
  refine unot rfl rfl ?_
  refine mv (v := .bool _) rfl rfl ?_
  first | refine spL (t := 18) (b := false) rfl ?_ | refine spF (t := 18) rfl rfl ?_   -- guard 1
  refine gy rfl ?_
  refine mv (v := .string _) rfl rfl ?_
  refine gy rfl ?_
  refine lnT rfl Try.underlying9 rfl ?_
  refine gy rfl ?_
  first | refine mv (v := .nilIface) rfl rfl ?_ | refine mv (v := .iface _ _) rfl rfl ?_ | refine mv rfl rfl ?_
  refine gy rfl ?_
  refine mc rfl me44_Size ca42 (c_size12 _ t c n (H.look (b := t))) rfl ?_
  rintro _ w2 ⟨rfl, F⟩
  replace H := H.keep F; clear F
  refine gy rfl ?_
  refine cvi rfl rfl Try.underlying3 (by first | exact w_i64 (by omega) | exact w_i64 (rng_i64 _) | rfl) rfl ?_
  refine gy rfl ?_
  refine neq rfl rfl rfl ?_
  refine pkF (v := .bool _) rfl rfl rfl ?_
  refine nl ?_
  refine then_n ?_
  first | refine cF rfl (by rw [hsz, hbl]; simp) ?_ | refine cbF rfl (by rw [hsz, hbl]; simp) ?_   -- test 1
  refine sk ?_
  refine then_n ?_
  refine sq ?_
  refine rg ?_
  first | refine mv (v := .nilIface) rfl rfl ?_ | refine mv (v := .iface _ _) rfl rfl ?_ | refine mv rfl rfl ?_
  refine mv (v := .string _) rfl rfl ?_
  refine cvSB H rfl Try.underlying9 Try.underlying36 Try.underlying5 rfl ?_
  clear H; intro b1 cp1 w3 hb1 hcp1 H _
  rw [hbl]
  refine mc rfl me44_FromBytes ca37 (c_from12 _ t c n (gI f n) hn (gI_rng hv) (gI_out (by omega)) b1 cp1 cp1 (cp1 + 1) _ (by omega) (H.look (b := b1)) ⟨hne, (H.ne_of rfl (y := ⟨t, _, true⟩) (.head _)).symm, (H.ne_of rfl (y := ⟨c, _, true⟩) (.tail _ (.head _))).symm⟩ (H.look (b := t)) (H.look (b := c))) rfl ?_
  rintro _ w4 ⟨rfl, id, K⟩
  rw [gI_idem] at K
  replace H := SH.call (A := [_]) (M := [_, _]) H K (by simp) (by simp); simp only [List.cons_append, List.nil_append] at H; clear K
  replace H := H.drop
  refine nl ?_
  refine then_n ?_
  refine sq ?_
  refine sq ?_
  refine rg ?_
  refine mv (v := .int .i64 _) rfl rfl ?_
  refine mv (v := .int .i64 _) rfl rfl ?_
  refine nl ?_
  refine then_n ?_
  refine bk ?_
  refine lpM (α := Nat × Option Addr × Nat) [6, 9, 31, 32, 33, 34, 35, 36, 37, 38, 39, 40, 41] (fun (i, D, cp) => [(6, .slice D i cp), (31, .int .i64 (i : Int))]) (fun (i, D, cp) w' => i ≤ n ∧ OR 24 1 w [] w' [⟨t, .cells ([.int .u32 (id), .int .u32 4095, .int .u32 0, .slice (some ⟨c, 0, none⟩) (n + 1) (n + 1), .int .u32 ((n : Nat) : Int), .int .u32 ((((n * 3 + 1) / 2) : Nat) : Int)] : List Value).toArray 52 (0, 0), true⟩, ⟨c, .cells (clR .u32 (n + 1) (gI f n)).toArray 24 (0, 0), true⟩] D i cp (clR .u32 i (gI f n))) (fun (i, D, cp) => n - i) (0, none, 0) ?_ (fC (by first | rfl | exact congrArg (Value.int _) (by first | omega | assumption | (symm; assumption) | (simp; done) | (simp; omega)) | exact congrArg (fun n => Value.slice _ n _) (by first | omega | (simp; done) | (simp; omega))) (fC (by first | rfl | exact congrArg (Value.int _) (by first | omega | assumption | (symm; assumption) | (simp; done) | (simp; omega)) | exact congrArg (fun n => Value.slice _ n _) (by first | omega | (simp; done) | (simp; omega))) (fN _))) ?_   -- loop 1
  · exact ⟨by omega, OR.nil H⟩
  · rintro ⟨i, D, cp⟩ ρx w5 ⟨hi, O⟩
    have H := O.sh
    refine sq ?_
    refine rg ?_
    refine lss rfl rfl rfl ?_
    refine nl ?_
    refine then_n ?_
    refine sq ?_
    first | refine cd rfl (fun hc2 => ?_) (fun hc2 => ?_) | refine cn rfl (fun hc2 => ?_) (fun hc2 => ?_)   -- test 2
    · refine sk ?_
      refine then_n ?_
      refine sq ?_
      refine bk ?_
      refine sq ?_
      refine rg ?_
      refine mv (v := .int .i64 _) rfl rfl ?_
      refine asg (v := .int .i64 _) rfl rfl ?_
      refine nl ?_
      refine then_n ?_
      refine rg ?_
      refine mv (v := .slice _ _ _) rfl rfl ?_
      first | refine mv (v := .nilIface) rfl rfl ?_ | refine mv (v := .iface _ _) rfl rfl ?_ | refine mv rfl rfl ?_
      refine mv (v := .int .i64 _) rfl rfl ?_
      refine cvi rfl rfl Try.underlying24 (by first | exact w_u32 (by omega) | exact w_u32 (rng_u32 _) | exact m_u32 _) rfl ?_
      refine mc rfl me44_ClusterValue ca34 (c_val12 _ t c n i id (gI f n) (by omega) (H.look (b := t)) (H.look (b := c))) rfl ?_
      rintro _ w6 ⟨rfl, F⟩
      replace H := H.keep F; replace O := O.keep F; clear F
      refine bsl (sz := 1) (out := ?o1) H Try.underlying22 ze24 sz24_1 (by decide) ?f1 rfl ?_
      case f1 =>
        refine FS.one (v := .int .u32 _) rfl rfl rfl (by first | decide | simp) ?_
        exact FS.nil
      intro b2 w7 hb2 H1 F; replace O := O.new F hb2 H1.look; clear H H1 F; have H := O.sh
      refine apO (zs := [.int .u32 0]) [.int .u32 (gI f n i)] O rfl rfl Try.underlying22 ri24 (by first | rfl | simp) (cells_look H.look) (by simp [Value.oneCell']) (by simp) (by omega) (by unfold maxLen; omega) rfl ?_
      clear O H; intro D9 cp9 w8 O
      replace O := O.drop; have H := O.sh
      refine asg (v := .slice _ _ _) rfl rfl ?_
      refine nl ?_
      refine in_n ?_
      refine then_n ?_
      refine rg ?_
      refine add rfl rfl (by first | exact w_i64 (by omega) | exact w_i64 (rng_i64 _) | rfl) rfl ?_
      refine mv (v := .int .i64 _) rfl rfl ?_
      refine nl ?_
      refine loop_n ?_
      exact ⟨(i + 1, D9, cp9), (by (try dsimp only); omega), ⟨by omega, by rw [clR_snoc .u32 i (gI f n)]; exact O⟩, (fC (by first | rfl | exact congrArg (Value.int _) (by first | omega | assumption | (symm; assumption) | (simp; done) | (simp; omega)) | exact congrArg (fun n => Value.slice _ n _) (by first | omega | (simp; done) | (simp; omega))) (fC (by first | rfl | exact congrArg (Value.int _) (by first | omega | assumption | (symm; assumption) | (simp; done) | (simp; omega)) | exact congrArg (fun n => Value.slice _ n _) (by first | omega | (simp; done) | (simp; omega))) (fN _))), (by repeat (first | exact Agree.setL rfl Agree.mask | exact Agree.self _ _ | refine Agree.upd rfl ?_ | refine Agree.setL rfl ?_ | refine Agree.mask2 rfl ?_))⟩
    · refine ex ?_
      refine then_e ?_
      refine loop_e ?_
      refine in_hit rfl ?_
      refine then_n ?_
      refine sq ?_
      refine rg ?_
      refine mv (v := .slice _ _ _) rfl rfl ?_
      refine asg (v := .slice _ _ _) rfl rfl ?_
      refine nl ?_
      refine then_n ?_
      refine rt ?_
      refine fin_r ?_
      obtain rfl : i = n := by omega
      exact ⟨D, cp, rfl, fun j hj => O.cells j _ (clR_get hj), O.sh.fr⟩

set_option maxRecDepth 100000 in
set_option maxHeartbeats 2000000 in
theorem c_FatValues16 (w : World) (n : Nat) (f : Nat → Int) (hn : 2 ≤ n ∧ n ≤ 300) (hv : ∀ i, 2 ≤ i → i < n → 0 ≤ f i ∧ f i ≤ 65535) : Calls Try.prog 6 #[.int .i64 16, .string (str (wB 2 n (fI 65528 65535 (gI f n) n))), .int .i64 (n : Int)] w (Ret fun v w' => ∃ D cp, v = .slice D n cp ∧ (∀ j, j < n → ∃ ad, D = some ad ∧ w'.cell? (ad.add j) = some (.int .u32 (gI f n j))) ∧ Fr [] w w') := by
  refine enter (fun ρ => ρ 6) Try.func6 rfl rfl rfl (res1 rfl) ?_
  have H := SH.nil w
  have hbl := wB_len 2 (fI 65528 65535 (gI f n) n) n
  have hsz := size_str (wB 2 n (fI 65528 65535 (gI f n) n))
  refine sq ?_
  refine rg ?_
  refine asg (v := .slice _ _ _) rfl rfl ?_
  refine nl ?_
  refine then_n ?_
  refine sq ?_
  refine rg ?_
  refine mv (v := .int .i64 _) rfl rfl ?_
  refine mv (v := .int .i64 _) rfl rfl ?_
  refine cl ca8 (c_fatTable16 _ n hn) rfl ?_
  rintro _ w1 ⟨t, c, rfl, K⟩
  replace H := H.join K (by simp); simp only [List.cons_append, List.nil_append] at H; clear K
  have hne : t ≠ c := H.ne_of rfl (y := ⟨c, _, true⟩) (.head _)
  refine mv (v := .tuple _) rfl rfl ?_
  refine xt rfl rfl rfl ?_
  refine xt rfl rfl rfl ?_
  first | refine asg (v := .nilIface) rfl rfl ?_ | refine asg (v := .iface _ _) rfl rfl ?_ | refine asg rfl rfl ?_
  refine asg (v := .bool _) rfl rfl ?_
  refine nl ?_
  refine then_n ?_
  refine sq ?_
  refine sq ?_
  refine rg ?_
  refine mv (v := .bool _) rfl rfl ?_
  refine unot rfl rfl ?_
  refine mv (v := .bool _) rfl rfl ?_
  first | refine spL (t := 18) (b := false) rfl ?_ | refine spF (t := 18) rfl rfl ?_   -- guard 1
  refine gy rfl ?_
  refine mv (v := .string _) rfl rfl ?_
  refine gy rfl ?_
  refine lnT rfl Try.underlying9 rfl ?_
  refine gy rfl ?_
  first | refine mv (v := .nilIface) rfl rfl ?_ | refine mv (v := .iface _ _) rfl rfl ?_ | refine mv rfl rfl ?_
  refine gy rfl ?_
  refine mc rfl me46_Size ca55 (c_size16 _ t c n (H.look (b := t))) rfl ?_
  rintro _ w2 ⟨rfl, F⟩
  replace H := H.keep F; clear F
  refine gy rfl ?_
  refine cvi rfl rfl Try.underlying3 (by first | exact w_i64 (by omega) | exact w_i64 (rng_i64 _) | rfl) rfl ?_
  refine gy rfl ?_
  refine neq rfl rfl rfl ?_
  refine pkF (v := .bool _) rfl rfl rfl ?_
  refine nl ?_
  refine then_n ?_
  first | refine cF rfl (by rw [hsz, hbl]; simp) ?_ | refine cbF rfl (by rw [hsz, hbl]; simp) ?_   -- test 1
  refine sk ?_
  refine then_n ?_
  refine sq ?_
  refine rg ?_
  first | refine mv (v := .nilIface) rfl rfl ?_ | refine mv (v := .iface _ _) rfl rfl ?_ | refine mv rfl rfl ?_
  refine mv (v := .string _) rfl rfl ?_
  refine cvSB H rfl Try.underlying9 Try.underlying36 Try.underlying5 rfl ?_
  clear H; intro b1 cp1 w3 hb1 hcp1 H _
  rw [hbl]
  refine mc rfl me46_FromBytes ca50 (c_from16 _ t c n (gI f n) hn (gI_rng hv) b1 cp1 cp1 (cp1 + 1) _ (by omega) (H.look (b := b1)) ⟨hne, (H.ne_of rfl (y := ⟨t, _, true⟩) (.head _)).symm, (H.ne_of rfl (y := ⟨c, _, true⟩) (.tail _ (.head _))).symm⟩ (H.look (b := t)) (H.look (b := c))) rfl ?_
  rintro _ w4 ⟨rfl, id, K⟩
  rw [gI_idem] at K
  replace H := SH.call (A := [_]) (M := [_, _]) H K (by simp) (by simp); simp only [List.cons_append, List.nil_append] at H; clear K
  replace H := H.drop
  refine nl ?_
  refine then_n ?_
  refine sq ?_
  refine sq ?_
  refine rg ?_
  refine mv (v := .int .i64 _) rfl rfl ?_
  refine mv (v := .int .i64 _) rfl rfl ?_
  refine nl ?_
  refine then_n ?_
  refine bk ?_
  refine lpM (α := Nat × Option Addr × Nat) [6, 9, 31, 32, 33, 34, 35, 36, 37, 38, 39, 40, 41] (fun (i, D, cp) => [(6, .slice D i cp), (31, .int .i64 (i : Int))]) (fun (i, D, cp) w' => i ≤ n ∧ OR 24 1 w [] w' [⟨t, .cells ([.int .u32 (id), .int .u32 65535, .slice (some ⟨c, 0, none⟩) (n + 1) (n + 1), .int .u32 ((n : Nat) : Int), .int .u32 (((n * 2) : Nat) : Int)] : List Value).toArray 54 (0, 0), true⟩, ⟨c, .cells (clR .u32 (n + 1) (gI f n)).toArray 24 (0, 0), true⟩] D i cp (clR .u32 i (gI f n))) (fun (i, D, cp) => n - i) (0, none, 0) ?_ (fC (by first | rfl | exact congrArg (Value.int _) (by first | omega | assumption | (symm; assumption) | (simp; done) | (simp; omega)) | exact congrArg (fun n => Value.slice _ n _) (by first | omega | (simp; done) | (simp; omega))) (fC (by first | rfl | exact congrArg (Value.int _) (by first | omega | assumption | (symm; assumption) | (simp; done) | (simp; omega)) | exact congrArg (fun n => Value.slice _ n _) (by first | omega | (simp; done) | (simp; omega))) (fN _))) ?_   -- loop 1
  · exact ⟨by omega, OR.nil H⟩
  · rintro ⟨i, D, cp⟩ ρx w5 ⟨hi, O⟩
    have H := O.sh
    refine sq ?_
    refine rg ?_
    refine lss rfl rfl rfl ?_
    refine nl ?_
    refine then_n ?_
    refine sq ?_
    first | refine cd rfl (fun hc2 => ?_) (fun hc2 => ?_) | refine cn rfl (fun hc2 => ?_) (fun hc2 => ?_)   -- test 2
    · refine sk ?_
      refine then_n ?_
      refine sq ?_
      refine bk ?_
      refine sq ?_
      refine rg ?_
      refine mv (v := .int .i64 _) rfl rfl ?_
      refine asg (v := .int .i64 _) rfl rfl ?_
      refine nl ?_
      refine then_n ?_
      refine rg ?_
      refine mv (v := .slice _ _ _) rfl rfl ?_
      first | refine mv (v := .nilIface) rfl rfl ?_ | refine mv (v := .iface _ _) rfl rfl ?_ | refine mv rfl rfl ?_
      refine mv (v := .int .i64 _) rfl rfl ?_
      refine cvi rfl rfl Try.underlying24 (by first | exact w_u32 (by omega) | exact w_u32 (rng_u32 _) | exact m_u32 _) rfl ?_
      refine mc rfl me46_ClusterValue ca47 (c_val16 _ t c n i id (gI f n) (by omega) (H.look (b := t)) (H.look (b := c))) rfl ?_
      rintro _ w6 ⟨rfl, F⟩
      replace H := H.keep F; replace O := O.keep F; clear F
      refine bsl (sz := 1) (out := ?o1) H Try.underlying22 ze24 sz24_1 (by decide) ?f1 rfl ?_
      case f1 =>
        refine FS.one (v := .int .u32 _) rfl rfl rfl (by first | decide | simp) ?_
        exact FS.nil
      intro b2 w7 hb2 H1 F; replace O := O.new F hb2 H1.look; clear H H1 F; have H := O.sh
      refine apO (zs := [.int .u32 0]) [.int .u32 (gI f n i)] O rfl rfl Try.underlying22 ri24 (by first | rfl | simp) (cells_look H.look) (by simp [Value.oneCell']) (by simp) (by omega) (by unfold maxLen; omega) rfl ?_
      clear O H; intro D9 cp9 w8 O
      replace O := O.drop; have H := O.sh
      refine asg (v := .slice _ _ _) rfl rfl ?_
      refine nl ?_
      refine in_n ?_
      refine then_n ?_
      refine rg ?_
      refine add rfl rfl (by first | exact w_i64 (by omega) | exact w_i64 (rng_i64 _) | rfl) rfl ?_
      refine mv (v := .int .i64 _) rfl rfl ?_
      refine nl ?_
      refine loop_n ?_
      exact ⟨(i + 1, D9, cp9), (by (try dsimp only); omega), ⟨by omega, by rw [clR_snoc .u32 i (gI f n)]; exact O⟩, (fC (by first | rfl | exact congrArg (Value.int _) (by first | omega | assumption | (symm; assumption) | (simp; done) | (simp; omega)) | exact congrArg (fun n => Value.slice _ n _) (by first | omega | (simp; done) | (simp; omega))) (fC (by first | rfl | exact congrArg (Value.int _) (by first | omega | assumption | (symm; assumption) | (simp; done) | (simp; omega)) | exact congrArg (fun n => Value.slice _ n _) (by first | omega | (simp; done) | (simp; omega))) (fN _))), (by repeat (first | exact Agree.setL rfl Agree.mask | exact Agree.self _ _ | refine Agree.upd rfl ?_ | refine Agree.setL rfl ?_ | refine Agree.mask2 rfl ?_))⟩
    · refine ex ?_
      refine then_e ?_
      refine loop_e ?_
      refine in_hit rfl ?_
      refine then_n ?_
      refine sq ?_
      refine rg ?_
      refine mv (v := .slice _ _ _) rfl rfl ?_
      refine asg (v := .slice _ _ _) rfl rfl ?_
      refine nl ?_
      refine then_n ?_
      refine rt ?_
      refine fin_r ?_
      obtain rfl : i = n := by omega
      exact ⟨D, cp, rfl, fun j hj => O.cells j _ (clR_get hj), O.sh.fr⟩

set_option maxRecDepth 100000 in
set_option maxHeartbeats 2000000 in
theorem c_FatValues32 (w : World) (n : Nat) (f : Nat → Int) (hn : 2 ≤ n ∧ n ≤ 300) (hv : ∀ i, 2 ≤ i → i < n → 0 ≤ f i ∧ f i ≤ 268435455) : Calls Try.prog 6 #[.int .i64 32, .string (str (wB 4 n (fI 268435448 268435455 (gI f n) n))), .int .i64 (n : Int)] w (Ret fun v w' => ∃ D cp, v = .slice D n cp ∧ (∀ j, j < n → ∃ ad, D = some ad ∧ w'.cell? (ad.add j) = some (.int .u32 (gI f n j))) ∧ Fr [] w w') := by
  refine enter (fun ρ => ρ 6) Try.func6 rfl rfl rfl (res1 rfl) ?_
  have H := SH.nil w
  have hbl := wB_len 4 (fI 268435448 268435455 (gI f n) n) n
  have hsz := size_str (wB 4 n (fI 268435448 268435455 (gI f n) n))
  refine sq ?_
  refine rg ?_
  refine asg (v := .slice _ _ _) rfl rfl ?_
  refine nl ?_
  refine then_n ?_
  refine sq ?_
  refine rg ?_
  refine mv (v := .int .i64 _) rfl rfl ?_
  refine mv (v := .int .i64 _) rfl rfl ?_
  refine cl ca8 (c_fatTable32 _ n hn) rfl ?_
  rintro _ w1 ⟨t, c, rfl, K⟩
  replace H := H.join K (by simp); simp only [List.cons_append, List.nil_append] at H; clear K
  have hne : t ≠ c := H.ne_of rfl (y := ⟨c, _, true⟩) (.head _)
  refine mv (v := .tuple _) rfl rfl ?_
  refine xt rfl rfl rfl ?_
  refine xt rfl rfl rfl ?_
  first | refine asg (v := .nilIface) rfl rfl ?_ | refine asg (v := .iface _ _) rfl rfl ?_ | refine asg rfl rfl ?_
  refine asg (v := .bool _) rfl rfl ?_
  refine nl ?_
  refine then_n ?_
  refine sq ?_
  refine sq ?_
  refine rg ?_
  refine mv (v := .bool _) rfl rfl ?_
  refine unot rfl rfl ?_
  refine mv (v := .bool _) rfl rfl ?_
  first | refine spL (t := 18) (b := false) rfl ?_ | refine spF (t := 18) rfl rfl ?_   -- guard 1
  refine gy rfl ?_
  refine mv (v := .string _) rfl rfl ?_
  refine gy rfl ?_
  refine lnT rfl Try.underlying9 rfl ?_
  refine gy rfl ?_
  first | refine mv (v := .nilIface) rfl rfl ?_ | refine mv (v := .iface _ _) rfl rfl ?_ | refine mv rfl rfl ?_
  refine gy rfl ?_
  refine mc rfl me48_Size ca68 (c_size32 _ t c n (H.look (b := t))) rfl ?_
  rintro _ w2 ⟨rfl, F⟩
  replace H := H.keep F; clear F
  refine gy rfl ?_
  refine cvi rfl rfl Try.underlying3 (by first | exact w_i64 (by omega) | exact w_i64 (rng_i64 _) | rfl) rfl ?_
  refine gy rfl ?_
  refine neq rfl rfl rfl ?_
  refine pkF (v := .bool _) rfl rfl rfl ?_
  refine nl ?_
  refine then_n ?_
  first | refine cF rfl (by rw [hsz, hbl]; simp) ?_ | refine cbF rfl (by rw [hsz, hbl]; simp) ?_   -- test 1
  refine sk ?_
  refine then_n ?_
  refine sq ?_
  refine rg ?_
  first | refine mv (v := .nilIface) rfl rfl ?_ | refine mv (v := .iface _ _) rfl rfl ?_ | refine mv rfl rfl ?_
  refine mv (v := .string _) rfl rfl ?_
  refine cvSB H rfl Try.underlying9 Try.underlying36 Try.underlying5 rfl ?_
  clear H; intro b1 cp1 w3 hb1 hcp1 H _
  rw [hbl]
  refine mc rfl me48_FromBytes ca63 (c_from32 _ t c n (gI f n) hn (gI_rng hv) b1 cp1 cp1 (cp1 + 1) _ (by omega) (H.look (b := b1)) ⟨hne, (H.ne_of rfl (y := ⟨t, _, true⟩) (.head _)).symm, (H.ne_of rfl (y := ⟨c, _, true⟩) (.tail _ (.head _))).symm⟩ (H.look (b := t)) (H.look (b := c))) rfl ?_
  rintro _ w4 ⟨rfl, id, K⟩
  rw [gI_idem] at K
  replace H := SH.call (A := [_]) (M := [_, _]) H K (by simp) (by simp); simp only [List.cons_append, List.nil_append] at H; clear K
  replace H := H.drop
  refine nl ?_
  refine then_n ?_
  refine sq ?_
  refine sq ?_
  refine rg ?_
  refine mv (v := .int .i64 _) rfl rfl ?_
  refine mv (v := .int .i64 _) rfl rfl ?_
  refine nl ?_
  refine then_n ?_
  refine bk ?_
  refine lpM (α := Nat × Option Addr × Nat) [6, 9, 31, 32, 33, 34, 35, 36, 37, 38, 39, 40, 41] (fun (i, D, cp) => [(6, .slice D i cp), (31, .int .i64 (i : Int))]) (fun (i, D, cp) w' => i ≤ n ∧ OR 24 1 w [] w' [⟨t, .cells ([.int .u32 (id), .int .u32 268435455, .int .u32 0, .slice (some ⟨c, 0, none⟩) (n + 1) (n + 1), .int .u32 2, .int .u32 (((n * 4) : Nat) : Int), .int .u32 ((n : Nat) : Int)] : List Value).toArray 50 (0, 0), true⟩, ⟨c, .cells (clR .u32 (n + 1) (gI f n)).toArray 24 (0, 0), true⟩] D i cp (clR .u32 i (gI f n))) (fun (i, D, cp) => n - i) (0, none, 0) ?_ (fC (by first | rfl | exact congrArg (Value.int _) (by first | omega | assumption | (symm; assumption) | (simp; done) | (simp; omega)) | exact congrArg (fun n => Value.slice _ n _) (by first | omega | (simp; done) | (simp; omega))) (fC (by first | rfl | exact congrArg (Value.int _) (by first | omega | assumption | (symm; assumption) | (simp; done) | (simp; omega)) | exact congrArg (fun n => Value.slice _ n _) (by first | omega | (simp; done) | (simp; omega))) (fN _))) ?_   -- loop 1
  · exact ⟨by omega, OR.nil H⟩
  · rintro ⟨i, D, cp⟩ ρx w5 ⟨hi, O⟩
    have H := O.sh
    refine sq ?_
    refine rg ?_
    refine lss rfl rfl rfl ?_
    refine nl ?_
    refine then_n ?_
    refine sq ?_
    first | refine cd rfl (fun hc2 => ?_) (fun hc2 => ?_) | refine cn rfl (fun hc2 => ?_) (fun hc2 => ?_)   -- test 2
    · refine sk ?_
      refine then_n ?_
      refine sq ?_
      refine bk ?_
      refine sq ?_
      refine rg ?_
      refine mv (v := .int .i64 _) rfl rfl ?_
      refine asg (v := .int .i64 _) rfl rfl ?_
      refine nl ?_
      refine then_n ?_
      refine rg ?_
      refine mv (v := .slice _ _ _) rfl rfl ?_
      first | refine mv (v := .nilIface) rfl rfl ?_ | refine mv (v := .iface _ _) rfl rfl ?_ | refine mv rfl rfl ?_
      refine mv (v := .int .i64 _) rfl rfl ?_
      refine cvi rfl rfl Try.underlying24 (by first | exact w_u32 (by omega) | exact w_u32 (rng_u32 _) | exact m_u32 _) rfl ?_
      refine mc rfl me48_ClusterValue ca60 (c_val32 _ t c n i id (gI f n) (by omega) (H.look (b := t)) (H.look (b := c))) rfl ?_
      rintro _ w6 ⟨rfl, F⟩
      replace H := H.keep F; replace O := O.keep F; clear F
      refine bsl (sz := 1) (out := ?o1) H Try.underlying22 ze24 sz24_1 (by decide) ?f1 rfl ?_
      case f1 =>
        refine FS.one (v := .int .u32 _) rfl rfl rfl (by first | decide | simp) ?_
        exact FS.nil
      intro b2 w7 hb2 H1 F; replace O := O.new F hb2 H1.look; clear H H1 F; have H := O.sh
      refine apO (zs := [.int .u32 0]) [.int .u32 (gI f n i)] O rfl rfl Try.underlying22 ri24 (by first | rfl | simp) (cells_look H.look) (by simp [Value.oneCell']) (by simp) (by omega) (by unfold maxLen; omega) rfl ?_
      clear O H; intro D9 cp9 w8 O
      replace O := O.drop; have H := O.sh
      refine asg (v := .slice _ _ _) rfl rfl ?_
      refine nl ?_
      refine in_n ?_
      refine then_n ?_
      refine rg ?_
      refine add rfl rfl (by first | exact w_i64 (by omega) | exact w_i64 (rng_i64 _) | rfl) rfl ?_
      refine mv (v := .int .i64 _) rfl rfl ?_
      refine nl ?_
      refine loop_n ?_
      exact ⟨(i + 1, D9, cp9), (by (try dsimp only); omega), ⟨by omega, by rw [clR_snoc .u32 i (gI f n)]; exact O⟩, (fC (by first | rfl | exact congrArg (Value.int _) (by first | omega | assumption | (symm; assumption) | (simp; done) | (simp; omega)) | exact congrArg (fun n => Value.slice _ n _) (by first | omega | (simp; done) | (simp; omega))) (fC (by first | rfl | exact congrArg (Value.int _) (by first | omega | assumption | (symm; assumption) | (simp; done) | (simp; omega)) | exact congrArg (fun n => Value.slice _ n _) (by first | omega | (simp; done) | (simp; omega))) (fN _))), (by repeat (first | exact Agree.setL rfl Agree.mask | exact Agree.self _ _ | refine Agree.upd rfl ?_ | refine Agree.setL rfl ?_ | refine Agree.mask2 rfl ?_))⟩
    · refine ex ?_
      refine then_e ?_
      refine loop_e ?_
      refine in_hit rfl ?_
      refine then_n ?_
      refine sq ?_
      refine rg ?_
      refine mv (v := .slice _ _ _) rfl rfl ?_
      refine asg (v := .slice _ _ _) rfl rfl ?_
      refine nl ?_
      refine then_n ?_
      refine rt ?_
      refine fin_r ?_
      obtain rfl : i = n := by omega
      exact ⟨D, cp, rfl, fun j hj => O.cells j _ (clR_get hj), O.sh.fr⟩

end Go.Proofs.Ytgmkjndmjnbahaa.X
