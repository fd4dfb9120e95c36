/- Walks of functions, printed by a program of this claim. -/
import Derived.Test.YtgmkjndmjnbahaaDoorA14
namespace Go.Proofs.YtgmkjndmjnbahaaDoor.X
set_option linter.unusedVariables false
set_option linter.unusedSimpArgs false
open Go Go.RowKit

namespace A15
theorem ca17 : callable Tryd.prog 17 = true := by kernel_rfl
theorem ca47 : callable Tryd.prog 47 = true := by kernel_rfl
theorem ca50 : callable Tryd.prog 50 = true := by kernel_rfl
theorem fo76_3 : fieldOff Tryd.prog 76 3 = some 3 := by kernel_rfl
theorem fo76_4 : fieldOff Tryd.prog 76 4 = some 4 := by kernel_rfl
theorem me40_ReadAt : ∀ (v : Value) (w : World), (method (Tryd.prog.types.size + Made.depth) 40 v "ReadAt").run Tryd.prog w = .ok (47, v) w := fun v w => by kernel_rfl
theorem me51_Write : ∀ (v : Value) (w : World), (method (Tryd.prog.types.size + Made.depth) 51 v "Write").run Tryd.prog w = .ok (50, v) w := fun v w => by kernel_rfl
theorem mi5 : elemInfo Tryd.prog 5 = some (.int .u8 0, 1) := by kernel_rfl
theorem sc25 : scalarB Tryd.prog 25 = true := by kernel_rfl
theorem sc48 : scalarB Tryd.prog 48 = true := by kernel_rfl
theorem sz5_1 : sizeB Tryd.prog 5 1 = true := by kernel_rfl

end A15
open A15

theorem na_gat (b : Nat) : ∀ (w : World), (nilAhead (Tryd.prog.types.size + Made.depth) 51 (.pointer (some ⟨b, 0, none⟩)) "Write").run Tryd.prog w = .ok (some false) w := fun w => by kernel_rfl
theorem na_mem (b : Nat) : ∀ (w : World), (nilAhead (Tryd.prog.types.size + Made.depth) 40 (.pointer (some ⟨b, 0, none⟩)) "WriteAt").run Tryd.prog w = .ok (some false) w := fun w => by kernel_rfl

set_option maxRecDepth 100000 in
set_option maxHeartbeats 4000000 in
theorem c_readC (w : World) (S : List Nat) (p a n g bm bd L c : Nat) (v0 v1 v2 y0 y1 y2 y3 y4 y5 z : Value) (x1 x2 x3 : Value) (TX : TypeId) (fr : Nat × Nat) (X : List UInt8) (O0 : OR 5 1 w S w [⟨p, .cells ([v0, v1, v2, .int .u32 (a : Int), .int .u32 (n : Int), y0, y1, y2, y3, y4, y5, .int .i64 512, .int .i64 512, z] : List Value).toArray 76 (0, 0), true⟩, ⟨bm, .cells ([.slice (some ⟨bd, 0, none⟩) L c, x1, x2, x3] : List Value).toArray 54 (0, 0), true⟩, ⟨bd, .cells (Bs (X)).toArray TX fr, true⟩, ⟨g, .cells ([.slice none 0 0] : List Value).toArray 46 (0, 0), true⟩] none 0 0 (Bs ([]))) (hL : L ≤ X.length) (hLc : L ≤ c) (hc : L ≤ 1000000000) (hn : 1 ≤ n) (hin : (a + n) * 512 ≤ L) (ad : Addr) (hE : EofW 0 91 ad w) (h0 : 0 ∉ S) : Calls Tryd.prog 12 #[.pointer (some ⟨p, 0, none⟩), .iface 40 (.pointer (some ⟨bm, 0, none⟩)), .iface 51 (.pointer (some ⟨g, 0, none⟩))] w (Ret fun v w' => ∃ D2 c2, v = .tuple #[.int .i64 ((512 * n : Nat) : Int), .nilIface] ∧ OR 5 1 w S w' [⟨p, .cells ([v0, v1, v2, .int .u32 (a : Int), .int .u32 (n : Int), y0, y1, y2, y3, y4, y5, .int .i64 512, .int .i64 512, z] : List Value).toArray 76 (0, 0), true⟩, ⟨bm, .cells ([.slice (some ⟨bd, 0, none⟩) L c, x1, x2, x3] : List Value).toArray 54 (0, 0), true⟩, ⟨bd, .cells (Bs (X)).toArray TX fr, true⟩, ⟨g, .cells ([.slice D2 (512 * n) c2] : List Value).toArray 46 (0, 0), true⟩] D2 (512 * n) c2 (Bs ((X.drop (a * 512)).take (512 * n)))) := by
  refine enter (fun ρ => .tuple #[ρ 6, ρ 7]) Tryd.func12 rfl rfl rfl (res2 rfl) ?_
  have O := O0
  have H := O.sh
  refine sq ?_
  refine rg ?_
  refine asg (v := .int .i64 _) rfl rfl ?_
  refine asg (v := .nilIface) rfl rfl ?_
  refine nl ?_
  refine then_n ?_
  refine sq ?_
  refine rg ?_
  refine mv (v := .pointer _) rfl rfl ?_
  refine cl ca17 (c_secs _ p a n v0 v1 v2 y0 y1 y2 y3 y4 y5 z H.look) rfl ?_
  rintro _ w1 ⟨rfl, F⟩
  replace H := H.keep F; replace O := O.keep F; clear F
  refine mv (v := .tuple _) rfl rfl ?_
  refine xt rfl rfl rfl ?_
  refine xt rfl rfl rfl ?_
  refine asg (v := .int .i64 _) rfl rfl ?_
  refine asg (v := .int .i64 _) rfl rfl ?_
  refine nl ?_
  refine then_n ?_
  refine sq ?_
  refine rg ?_
  refine asg (v := .int .i64 _) rfl rfl ?_
  refine nl ?_
  refine then_n ?_
  refine sq ?_
  refine rg ?_
  refine mv (v := .int .i64 _) rfl rfl ?_
  refine mkB H rfl rfl Tryd.underlying23 mi5 (by omega) (by omega) (by omega) (by omega) rfl ?_
  intro b1 w2 hb1 H1 F; replace O := O.new F hb1 H1.look; clear H H1 F; have H := O.sh
  refine asg (v := .slice _ _ _) rfl rfl ?_
  refine nl ?_
  refine then_n ?_
  refine sq ?_
  refine rg ?_
  refine mv (v := .pointer _) rfl rfl ?_
  first | refine nc rfl rfl ?_ | refine nci rfl rfl ?_
  refine fa rfl fo76_3 rfl ?_
  first | refine ld H rfl sc25 rfl rfl ?_ | refine lc rfl (by first | assumption | exact H.fr.cell (by assumption) (by simp)) sc25 rfl ?_ | refine ld H rfl sc25 (by assumption) rfl ?_
  refine mv (v := .int .i64 _) rfl rfl ?_
  refine cvi rfl rfl Tryd.underlying25 (by first | exact w_u32 (by omega) | exact w_u32 (rng_u32 _) | exact m_u32 _) rfl ?_
  refine mul (c := ((a * 512 : Nat) : Int)) rfl rfl (by rw [w_u32 (by omega)]; omega) rfl ?_
  refine asg (v := .int .u32 _) rfl rfl ?_
  refine nl ?_
  refine then_n ?_
  refine sq ?_
  refine rg ?_
  refine mv (v := .pointer _) rfl rfl ?_
  first | refine nc rfl rfl ?_ | refine nci rfl rfl ?_
  refine fa rfl fo76_4 rfl ?_
  first | refine ld H rfl sc25 rfl rfl ?_ | refine lc rfl (by first | assumption | exact H.fr.cell (by assumption) (by simp)) sc25 rfl ?_ | refine ld H rfl sc25 (by assumption) rfl ?_
  refine mv (v := .int .i64 _) rfl rfl ?_
  refine cvi rfl rfl Tryd.underlying25 (by first | exact w_u32 (by omega) | exact w_u32 (rng_u32 _) | exact m_u32 _) rfl ?_
  refine mul (c := ((n * 512 : Nat) : Int)) rfl rfl (by rw [w_u32 (by omega)]; omega) rfl ?_
  refine asg (v := .int .u32 _) rfl rfl ?_
  refine nl ?_
  refine then_n ?_
  refine sq ?_
  refine bk ?_
  refine lpM (α := Nat × Option Addr × Nat × List UInt8) [6, 7, 10, 14, 15, 37, 38, 39, 40, 41, 42, 43, 44, 45, 46, 47, 48, 49, 50, 51, 52, 53, 54, 55, 56, 57, 58, 59, 60, 61, 62, 63, 64, 65, 66, 67, 68, 69, 70, 71, 72, 73, 74, 75, 76, 77, 78, 79, 80] (fun (j, D, cp, bf) => [(10, .int .i64 ((512 * j : Nat) : Int))]) (fun (j, D, cp, bf) w' => j < n ∧ bf.length = 512 ∧ OR 5 1 w S w' [⟨b1, .cells (Bs bf).toArray 5 (0, 0), true⟩, ⟨p, .cells ([v0, v1, v2, .int .u32 (a : Int), .int .u32 (n : Int), y0, y1, y2, y3, y4, y5, .int .i64 512, .int .i64 512, z] : List Value).toArray 76 (0, 0), true⟩, ⟨bm, .cells ([.slice (some ⟨bd, 0, none⟩) L c, x1, x2, x3] : List Value).toArray 54 (0, 0), true⟩, ⟨bd, .cells (Bs (X)).toArray TX fr, true⟩, ⟨g, .cells ([.slice D (512 * j) cp] : List Value).toArray 46 (0, 0), true⟩] D (512 * j) cp (Bs ((X.drop (a * 512)).take (512 * j)))) (fun (j, D, cp, bf) => n - j) (0, none, 0, List.replicate ((512 : Int)).toNat 0) ?_ (fC (by first | rfl | exact congrArg (Value.int _) (by first | omega | assumption | (symm; assumption) | (simp; done) | (simp; omega)) | exact congrArg (fun n => Value.slice _ n _) (by first | omega | (simp; done) | (simp; omega))) (fN _)) ?_   -- loop 1
  · exact ⟨by omega, by simp, by rw [show 512 * 0 = 0 from rfl, List.take_zero]; exact O⟩
  · rintro ⟨j, D, cp, bf⟩ ρx w3 ⟨hj, hbf, O⟩
    have H := O.sh
    refine bk ?_
    refine sq ?_
    refine rg ?_
    first | refine mv (v := .nilIface) rfl rfl ?_ | refine mv (v := .iface _ _) rfl rfl ?_ | refine mv rfl rfl ?_
    refine mv (v := .slice _ _ _) rfl rfl ?_
    refine mv (v := .int .u32 _) rfl rfl ?_
    refine cvi rfl rfl Tryd.underlying2 (by first | exact w_i64 (by omega) | exact w_i64 (rng_i64 _) | rfl) rfl ?_
    refine mv (v := .int .i64 _) rfl rfl ?_
    refine add (c := ((a * 512 + 512 * j : Nat) : Int)) rfl rfl (by rw [w_i64 (by omega)]; omega) rfl ?_
    refine mc rfl me40_ReadAt ca47 (c_readAt _ bm bd b1 L c (a * 512 + 512 * j) 0 512 512 x1 x2 x3 _ _ fr X bf (H.look (b := bm)) (H.look (b := bd)) (H.look (b := b1)) ⟨H.ne_of rfl (y := ⟨bm, _, _⟩) (.tail _ (.head _)), H.ne_of rfl (y := ⟨bd, _, _⟩) (.tail _ (.tail _ (.head _)))⟩ (by omega) hL hLc (by omega) (by omega) hc) rfl ?_
    rintro _ w4 ⟨rfl, F, hnew⟩
    rw [pAt_all (by rw [List.length_take, List.length_drop]; omega)] at hnew
    replace H := H.put (b := b1) F hnew; replace O := O.put (b := b1) F hnew; clear F hnew
    refine mv (v := .tuple _) rfl rfl ?_
    refine xt rfl rfl rfl ?_
    refine xt rfl rfl rfl ?_
    refine asg (v := .int .i64 _) rfl rfl ?_
    first | refine asg (v := .nilIface) rfl rfl ?_ | refine asg (v := .iface _ _) rfl rfl ?_ | refine asg rfl rfl ?_
    refine nl ?_
    refine then_n ?_
    refine sq ?_
    refine sq ?_
    refine rg ?_
    first | refine mv (v := .nilIface) rfl rfl ?_ | refine mv (v := .iface _ _) rfl rfl ?_ | refine mv rfl rfl ?_
    first | refine neqI1 rfl Tryd.underlying48 rfl ?_ | refine neqI0 rfl Tryd.underlying48 rfl ?_
    refine mv (v := .bool _) rfl rfl ?_
    first | refine spL (t := 49) (b := false) rfl ?_ | refine spF (t := 49) rfl rfl ?_   -- guard 1
    refine gn rfl rfl ?_
    refine gn rfl rfl ?_
    refine gn rfl rfl ?_
    refine pkF (v := .bool _) rfl rfl rfl ?_
    refine nl ?_
    refine then_n ?_
    refine cbF rfl rfl ?_
    refine sk ?_
    refine then_n ?_
    refine sq ?_
    refine sq ?_
    refine rg ?_
    refine mv (v := .int .i64 _) rfl rfl ?_
    refine gtr rfl rfl rfl ?_
    refine nl ?_
    refine then_n ?_
    first | refine cT rfl (by omega) ?_ | refine cbT rfl (by omega) ?_   -- test 1
    refine dr (by kernel_rfl) ?_   -- region 10
    have H := H.drew
    replace O := O.drew
    refine hold (fun _ => True) [] ?_
    first | refine tk (i := 0) rfl (by kernel_rfl) rfl trivial (fun _ _ => r_mv (v := .nilIface) rfl) ?_ | refine tk (i := 0) rfl (by kernel_rfl) rfl trivial (fun _ _ => r_mv (v := .iface _ _) rfl) ?_ | refine tk (i := 0) rfl (by kernel_rfl) rfl trivial (fun _ _ => r_mv rfl) ?_
    refine tk (i := 1) rfl (by kernel_rfl) rfl trivial (fun _ _ => r_mv (v := .slice _ _ _) rfl) ?_
    refine tk (i := 2) rfl (by kernel_rfl) rfl trivial (fun _ _ => r_mv (v := .int .i64 _) rfl) ?_
    refine tk (i := 3) rfl (by kernel_rfl) rfl trivial (fun _ _ => r_slhN (512) rfl rfl Tryd.underlying23 sz5_1 (by omega) (by omega)) ?_
    refine unfree ?_
    refine fo (i := 4) (by kernel_rfl) rfl rfl ?_
    refine mkM [.iface _ _] rfl rfl ?_
    refine nl ?_
    refine then_n ?_
    refine fo (i := 5) (by kernel_rfl) rfl rfl ?_
    refine ncm rfl (na_gat g) rfl ?_
    refine nl ?_
    refine then_n ?_
    refine holdH H [7] ?_
    first | refine tk (i := 6) rfl (by kernel_rfl) rfl H (fun w' H => r_mv (v := .nilIface) rfl) ?_ | refine tk (i := 6) rfl (by kernel_rfl) rfl H (fun w' H => r_mv (v := .iface _ _) rfl) ?_ | refine tk (i := 6) rfl (by kernel_rfl) rfl H (fun w' H => r_mv rfl) ?_
    refine fb (i := 7) (by kernel_rfl) rfl rfl rfl ?_
    refine mc rfl me51_Write ca50 (c_gatW _ (SD [_] D) g D (512 * j) cp _ _ (OR.base (A := [_, _, _, _]) O) b1 512 512 (RB.allm H (by rw [List.length_take, List.length_drop]; omega)) ⟨by omega, by omega⟩) rfl ?_
    rintro _ w5 ⟨D9, cp9, rfl, K⟩
    replace O := OR.call (A := [_, _, _, _]) O (by simp) K (by simp); simp only [List.cons_append, List.nil_append] at O
    replace H := O.sh; clear K
    refine nl ?_
    refine then_n ?_
    refine holdH H [] ?_
    refine tk (i := 8) rfl (by kernel_rfl) rfl H (fun w' H => r_mv (v := .tuple _) rfl) ?_
    refine tk (i := 9) rfl (by kernel_rfl) rfl H (fun w' H => r_xt rfl rfl) ?_
    refine tk (i := 10) rfl (by kernel_rfl) rfl H (fun w' H => r_xt rfl rfl) ?_
    refine da (by kernel_rfl) ?_
    refine then_n ?_
    refine sq ?_
    refine rg ?_
    refine mv (v := .int .i64 _) rfl rfl ?_
    refine mv (v := .int .i64 _) rfl rfl ?_
    refine add (c := ((512 * (j + 1) : Nat) : Int)) rfl rfl (by rw [w_i64 (by omega)]; omega) rfl ?_
    refine asg (v := .int .i64 _) rfl rfl ?_
    refine nl ?_
    refine then_n ?_
    refine sq ?_
    refine rg ?_
    first | refine mv (v := .nilIface) rfl rfl ?_ | refine mv (v := .iface _ _) rfl rfl ?_ | refine mv rfl rfl ?_
    refine lc (v := .iface _ _) rfl (hE.fr H.fr h0) sc48 rfl ?_
    refine eqV rfl rfl Tryd.underlying48 rfl ?_
    refine mv (v := .bool _) rfl rfl ?_
    first | refine spL (t := 75) (b := false) rfl ?_ | refine spF (t := 75) rfl rfl ?_   -- guard 2
    refine gy rfl ?_
    refine mv (v := .int .i64 _) rfl rfl ?_
    refine gy rfl ?_
    refine mv (v := .int .u32 _) rfl rfl ?_
    refine gy rfl ?_
    refine cvi rfl rfl Tryd.underlying2 (by first | exact w_i64 (by omega) | exact w_i64 (rng_i64 _) | rfl) rfl ?_
    refine gy rfl ?_
    refine geq rfl rfl rfl ?_
    refine pkF (v := .bool _) rfl rfl rfl ?_
    refine nl ?_
    refine then_n ?_
    first | refine cd rfl (fun hc2 => ?_) (fun hc2 => ?_) | refine cn rfl (fun hc2 => ?_) (fun hc2 => ?_)   -- test 2
    · skip
      refine ex ?_
      refine in_miss rfl ?_
      refine loop_e ?_
      refine in_hit rfl ?_
      refine then_n ?_
      refine sq ?_
      refine rg ?_
      refine mv (v := .int .i64 _) rfl rfl ?_
      refine asg (v := .int .i64 _) rfl rfl ?_
      refine asg (v := .nilIface) rfl rfl ?_
      refine nl ?_
      refine then_n ?_
      refine rt ?_
      refine fin_r ?_
      obtain rfl : n = j + 1 := by omega
      exact ⟨D9, cp9, rfl, by rw [take_step] at O; exact O.drop⟩
    · refine sk ?_
      refine in_n ?_
      refine loop_n ?_
      exact ⟨(j + 1, D9, cp9, (X.drop (a * 512 + 512 * j)).take 512), (by (try dsimp only); omega), ⟨by omega, by rw [List.length_take, List.length_drop]; omega, by rw [take_step] at O; exact O⟩, (fC (by first | rfl | exact congrArg (Value.int _) (by first | omega | assumption | (symm; assumption) | (simp; done) | (simp; omega)) | exact congrArg (fun n => Value.slice _ n _) (by first | omega | (simp; done) | (simp; omega))) (fN _)), (by repeat (first | exact Agree.setL rfl Agree.mask | exact Agree.self _ _ | refine Agree.upd rfl ?_ | refine Agree.setL rfl ?_ | refine Agree.mask2 rfl ?_))⟩

end Go.Proofs.YtgmkjndmjnbahaaDoor.X
