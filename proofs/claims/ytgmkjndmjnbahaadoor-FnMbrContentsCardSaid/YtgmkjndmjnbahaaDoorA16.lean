/- Walks of functions, printed by a program of this claim. -/
import Derived.Test.YtgmkjndmjnbahaaDoorA15
namespace Go.Proofs.YtgmkjndmjnbahaaDoor.X
set_option linter.unusedVariables false
set_option linter.unusedSimpArgs false
open Go Go.RowKit

namespace A16
theorem ca17 : callable Tryd.prog 17 = true := by kernel_rfl
theorem ca48 : callable Tryd.prog 48 = true := by kernel_rfl
theorem ca52 : callable Tryd.prog 52 = true := by kernel_rfl
theorem fo54_0 : fieldOff Tryd.prog 54 0 = some 0 := by kernel_rfl
theorem fo54_2 : fieldOff Tryd.prog 54 2 = some 2 := by kernel_rfl
theorem fo76_3 : fieldOff Tryd.prog 76 3 = some 3 := by kernel_rfl
theorem fo76_4 : fieldOff Tryd.prog 76 4 = some 4 := by kernel_rfl
theorem me40_WriteAt : ∀ (v : Value) (w : World), (method (Tryd.prog.types.size + Made.depth) 40 v "WriteAt").run Tryd.prog w = .ok (48, v) w := fun v w => by kernel_rfl
theorem me57_Read : ∀ (v : Value) (w : World), (method (Tryd.prog.types.size + Made.depth) 57 v "Read").run Tryd.prog w = .ok (52, v) w := fun v w => by kernel_rfl
theorem mi5 : elemInfo Tryd.prog 5 = some (.int .u8 0, 1) := by kernel_rfl
theorem sc23 : scalarB Tryd.prog 23 = true := by kernel_rfl
theorem sc25 : scalarB Tryd.prog 25 = true := by kernel_rfl
theorem sc4 : scalarB Tryd.prog 4 = true := by kernel_rfl
theorem sc48 : scalarB Tryd.prog 48 = true := by kernel_rfl
theorem sz5_1 : sizeB Tryd.prog 5 1 = true := by kernel_rfl

end A16
open A16

set_option maxRecDepth 100000 in
set_option maxHeartbeats 1000000 in
theorem c_writeAt (w : World) (bm bd L c k n c2 f2 : Nat) (x1 x3 : Value) (A : Option Addr) (T : TypeId) (ds xs : List UInt8) (hm : w.heap[bm]? = some (.cells [.slice (some ⟨bd, 0, none⟩) L c, x1, .bool false, x3].toArray 54 (0, 0))) (hd : w.heap[bd]? = some (.cells (Bs ds).toArray T (c, f2))) (hR : RB w A n xs) (hk : k + n ≤ L) (hL : L ≤ ds.length) (hLc : L ≤ c) (hn : 0 < n) (hc : L ≤ 1000000000) (hne : bm ≠ bd) : Calls Tryd.prog 48 #[.pointer (some ⟨bm, 0, none⟩), .slice A n c2, .int .i64 (k : Int)] w (Ret fun v w' => v = .tuple #[.int .i64 (n : Int), .nilIface] ∧ Fr [bd] w w' ∧ w'.heap[bd]? = some (.cells (Bs (pAt ds k xs)).toArray T (c, f2))) := by
  refine enter (fun ρ => .tuple #[ρ 6, ρ 7]) Tryd.func48 rfl rfl rfl (res2 rfl) ?_
  have H : SH w [bd] w [⟨bd, .cells (Bs ds).toArray T (c, f2), true⟩, ⟨bm, .cells [.slice (some ⟨bd, 0, none⟩) L c, x1, .bool false, x3].toArray 54 (0, 0), false⟩] := SH.init [bd] _ (by simp [hm, hd]) (by simp [hne.symm]) (by simp)
  have hRl := hR.1
  refine sq ?_
  refine rg ?_
  refine asg (v := .int .i64 _) rfl rfl ?_
  refine asg (v := .nilIface) rfl rfl ?_
  refine nl ?_
  refine then_n ?_
  refine sq ?_
  refine sq ?_
  refine rg ?_
  refine mv (v := .int .i64 _) rfl rfl ?_
  refine lss rfl rfl rfl ?_
  refine mv (v := .bool _) rfl rfl ?_
  first | refine spL (t := 10) (b := false) rfl ?_ | refine spF (t := 10) rfl (by omega) ?_   -- guard 1
  refine gy rfl ?_
  refine mv (v := .int .i64 _) rfl rfl ?_
  refine gy rfl ?_
  refine mv (v := .pointer _) rfl rfl ?_
  refine gy rfl ?_
  first | refine nc rfl rfl ?_ | refine nci rfl rfl ?_
  refine gy rfl ?_
  refine fa rfl fo54_0 rfl ?_
  refine gy rfl ?_
  first | refine ld H rfl sc23 rfl rfl ?_ | refine lc rfl (by first | assumption | exact H.fr.cell (by assumption) (by simp)) sc23 rfl ?_ | refine ld H rfl sc23 (by assumption) rfl ?_
  refine gy rfl ?_
  refine lnS rfl Tryd.underlying23 rfl ?_
  refine gy rfl ?_
  refine gtr rfl rfl rfl ?_
  refine pkF (v := .bool _) rfl rfl rfl ?_
  refine mv (v := .bool _) rfl rfl ?_
  first | refine spL (t := 19) (b := false) rfl ?_ | refine spF (t := 19) rfl (by omega) ?_   -- guard 2
  refine gy rfl ?_
  refine mv (v := .slice _ _ _) rfl rfl ?_
  refine gy rfl ?_
  refine lnS rfl Tryd.underlying23 rfl ?_
  refine gy rfl ?_
  refine mv (v := .pointer _) rfl rfl ?_
  refine gy rfl ?_
  first | refine nc rfl rfl ?_ | refine nci rfl rfl ?_
  refine gy rfl ?_
  refine fa rfl fo54_0 rfl ?_
  refine gy rfl ?_
  first | refine ld H rfl sc23 rfl rfl ?_ | refine lc rfl (by first | assumption | exact H.fr.cell (by assumption) (by simp)) sc23 rfl ?_ | refine ld H rfl sc23 (by assumption) rfl ?_
  refine gy rfl ?_
  refine lnS rfl Tryd.underlying23 rfl ?_
  refine gy rfl ?_
  refine mv (v := .int .i64 _) rfl rfl ?_
  refine gy rfl ?_
  refine sub rfl rfl (by first | exact w_i64 (by omega) | exact w_i64 (rng_i64 _) | rfl) rfl ?_
  refine gy rfl ?_
  refine gtr rfl rfl rfl ?_
  refine pkF (v := .bool _) rfl rfl rfl ?_
  refine nl ?_
  refine then_n ?_
  first | refine cF rfl (by omega) ?_ | refine cbF rfl (by omega) ?_   -- test 1
  refine sk ?_
  refine then_n ?_
  refine sq ?_
  refine sq ?_
  refine rg ?_
  refine mv (v := .pointer _) rfl rfl ?_
  first | refine nc rfl rfl ?_ | refine nci rfl rfl ?_
  refine fa rfl fo54_2 rfl ?_
  first | refine ld H rfl sc4 rfl rfl ?_ | refine lc rfl (by first | assumption | exact H.fr.cell (by assumption) (by simp)) sc4 rfl ?_ | refine ld H rfl sc4 (by assumption) rfl ?_
  refine nl ?_
  refine then_n ?_
  first | refine cF rfl rfl ?_ | refine cbF rfl rfl ?_   -- test 2
  refine sk ?_
  refine then_n ?_
  refine sq ?_
  refine rg ?_
  refine mv (v := .pointer _) rfl rfl ?_
  first | refine nc rfl rfl ?_ | refine nci rfl rfl ?_
  refine fa rfl fo54_0 rfl ?_
  first | refine ld H rfl sc23 rfl rfl ?_ | refine lc rfl (by first | assumption | exact H.fr.cell (by assumption) (by simp)) sc23 rfl ?_ | refine ld H rfl sc23 (by assumption) rfl ?_
  refine mv (v := .int .i64 _) rfl rfl ?_
  refine sll rfl rfl Tryd.underlying23 sz5_1 (by first | trivial | omega | (simp; omega)) rfl ?_
  refine mv (v := .slice _ _ _) rfl rfl ?_
  refine cpB H rfl rfl Tryd.underlying23 sz5_1 hR (by omega) (by omega) rfl ?_
  clear H; intro w1 H _
  refine asg (v := .int .i64 _) rfl rfl ?_
  refine asg (v := .nilIface) rfl rfl ?_
  refine nl ?_
  refine then_n ?_
  refine rt ?_
  refine fin_r ?_
  have e := H.look (b := bd)
  have e0 : 0 + (k : Int).toNat * 1 = k := by omega
  have e1 : min n (L - (k : Int).toNat) = n := by rw [Int.toNat_natCast]; omega
  refine ⟨?_, H.fr, ?_⟩
  · show Value.tuple #[.int .i64 ((min n (L - (k : Int).toNat) : Nat) : Int), .nilIface] = _
    rw [e1]
  rw [e, e0, e1]
  unfold pAt
  rw [hRl, List.take_of_length_le (l := xs) (by omega)]

set_option maxRecDepth 100000 in
set_option maxHeartbeats 4000000 in
theorem c_writeC (w : World) (S : List Nat) (p a n r bm bd L c f2 : Nat) (v0 v1 v2 y0 y1 y2 y3 y4 y5 z : Value) (x1 x3 : Value) (TX : TypeId) (X s : List UInt8) (H0 : SH w S w [⟨p, .cells ([v0, v1, v2, .int .u32 (a : Int), .int .u32 (n : Int), y0, y1, y2, y3, y4, y5, .int .i64 512, .int .i64 512, z] : List Value).toArray 76 (0, 0), true⟩, ⟨bm, .cells ([.slice (some ⟨bd, 0, none⟩) L c, x1, .bool false, x3] : List Value).toArray 54 (0, 0), true⟩, ⟨bd, .cells (Bs (X)).toArray TX (c, f2), true⟩, ⟨r, .cells ([.string (str s), .int .i64 (0), .int .i64 (-1)] : List Value).toArray 87 (0, 0), true⟩]) (hL : L ≤ X.length) (hLc : L ≤ c) (hc : L ≤ 1000000000) (hs : s.length = 512 * n) (hin : (a + n) * 512 ≤ L) (ad : Addr) (hE : EofW 0 91 ad w) (h0 : 0 ∉ S ∧ 0 < r) : Calls Tryd.prog 13 #[.pointer (some ⟨p, 0, none⟩), .iface 40 (.pointer (some ⟨bm, 0, none⟩)), .iface 57 (.pointer (some ⟨r, 0, none⟩))] w (Ret fun v w' => v = .tuple #[.int .u64 ((512 * n : Nat) : Int), .nilIface] ∧ SH w S w' [⟨p, .cells ([v0, v1, v2, .int .u32 (a : Int), .int .u32 (n : Int), y0, y1, y2, y3, y4, y5, .int .i64 512, .int .i64 512, z] : List Value).toArray 76 (0, 0), true⟩, ⟨bm, .cells ([.slice (some ⟨bd, 0, none⟩) L c, x1, .bool false, x3] : List Value).toArray 54 (0, 0), true⟩, ⟨bd, .cells (Bs (pAt X (a * 512) s)).toArray TX (c, f2), true⟩, ⟨r, .cells ([.string (str s), .int .i64 (((512 * n : Nat) : Int)), .int .i64 (-1)] : List Value).toArray 87 (0, 0), true⟩]) := by
  refine enter (fun ρ => .tuple #[ρ 6, ρ 7]) Tryd.func13 rfl rfl rfl (res2 rfl) ?_
  have H := H0
  have hltE := hE.lt
  refine sq ?_
  refine rg ?_
  refine asg (v := .int .u64 _) rfl rfl ?_
  refine asg (v := .nilIface) rfl rfl ?_
  refine nl ?_
  refine then_n ?_
  refine sq ?_
  refine rg ?_
  refine mv (v := .pointer _) rfl rfl ?_
  refine cl ca17 (c_secs _ p a n v0 v1 v2 y0 y1 y2 y3 y4 y5 z H.look) rfl ?_
  rintro _ w1 ⟨rfl, F⟩
  replace H := H.keep F; clear F
  refine mv (v := .tuple _) rfl rfl ?_
  refine xt rfl rfl rfl ?_
  refine xt rfl rfl rfl ?_
  refine asg (v := .int .i64 _) rfl rfl ?_
  refine asg (v := .int .i64 _) rfl rfl ?_
  refine nl ?_
  refine then_n ?_
  refine sq ?_
  refine rg ?_
  refine asg (v := .int .u64 _) rfl rfl ?_
  refine nl ?_
  refine then_n ?_
  refine sq ?_
  refine rg ?_
  refine mv (v := .int .i64 _) rfl rfl ?_
  have hlt1 := (hE.fr H.fr h0.1).lt
  refine mkB H rfl rfl Tryd.underlying23 mi5 (by omega) (by omega) (by omega) (by omega) rfl ?_
  clear H; intro b1 w2 hb1 H _
  refine asg (v := .slice _ _ _) rfl rfl ?_
  refine nl ?_
  refine then_n ?_
  refine sq ?_
  refine rg ?_
  refine mv (v := .pointer _) rfl rfl ?_
  first | refine nc rfl rfl ?_ | refine nci rfl rfl ?_
  refine fa rfl fo76_3 rfl ?_
  first | refine ld H rfl sc25 rfl rfl ?_ | refine lc rfl (by first | assumption | exact H.fr.cell (by assumption) (by simp)) sc25 rfl ?_ | refine ld H rfl sc25 (by assumption) rfl ?_
  refine mv (v := .int .i64 _) rfl rfl ?_
  refine cvi rfl rfl Tryd.underlying25 (by first | exact w_u32 (by omega) | exact w_u32 (rng_u32 _) | exact m_u32 _) rfl ?_
  refine mul (c := ((a * 512 : Nat) : Int)) rfl rfl (by rw [w_u32 (by omega)]; omega) rfl ?_
  refine asg (v := .int .u32 _) rfl rfl ?_
  refine nl ?_
  refine then_n ?_
  refine sq ?_
  refine rg ?_
  refine mv (v := .pointer _) rfl rfl ?_
  first | refine nc rfl rfl ?_ | refine nci rfl rfl ?_
  refine fa rfl fo76_4 rfl ?_
  first | refine ld H rfl sc25 rfl rfl ?_ | refine lc rfl (by first | assumption | exact H.fr.cell (by assumption) (by simp)) sc25 rfl ?_ | refine ld H rfl sc25 (by assumption) rfl ?_
  refine mv (v := .int .i64 _) rfl rfl ?_
  refine cvi rfl rfl Tryd.underlying25 (by first | exact w_u32 (by omega) | exact w_u32 (rng_u32 _) | exact m_u32 _) rfl ?_
  refine mul (c := ((n * 512 : Nat) : Int)) rfl rfl (by rw [w_u32 (by omega)]; omega) rfl ?_
  refine asg (v := .int .u32 _) rfl rfl ?_
  refine nl ?_
  refine then_n ?_
  refine sq ?_
  refine bk ?_
  refine lpM (α := Nat × List UInt8) [6, 7, 10, 14, 15, 16, 17, 39, 40, 41, 42, 43, 44, 45, 46, 47, 48, 49, 50, 51, 52, 53, 54, 55, 56, 57, 58, 59, 60, 61, 62, 63, 64, 65, 66, 67, 68, 69, 70, 71, 72, 73, 74, 75, 76, 77, 78, 79, 80, 81, 82, 83, 84, 85, 86, 87, 88, 89, 90, 91, 92] (fun (j, bf) => [(10, .int .u64 ((512 * j : Nat) : Int))]) (fun (j, bf) w' => j ≤ n ∧ bf.length = 512 ∧ SH w S w' [⟨b1, .cells (Bs bf).toArray 5 (0, 0), true⟩, ⟨p, .cells ([v0, v1, v2, .int .u32 (a : Int), .int .u32 (n : Int), y0, y1, y2, y3, y4, y5, .int .i64 512, .int .i64 512, z] : List Value).toArray 76 (0, 0), true⟩, ⟨bm, .cells ([.slice (some ⟨bd, 0, none⟩) L c, x1, .bool false, x3] : List Value).toArray 54 (0, 0), true⟩, ⟨bd, .cells (Bs (pAt X (a * 512) (s.take (512 * j)))).toArray TX (c, f2), true⟩, ⟨r, .cells ([.string (str s), .int .i64 (((512 * j : Nat) : Int)), .int .i64 (-1)] : List Value).toArray 87 (0, 0), true⟩]) (fun (j, bf) => n - j) (0, List.replicate ((512 : Int)).toNat 0) ?_ (fC (by first | rfl | exact congrArg (Value.int _) (by first | omega | assumption | (symm; assumption) | (simp; done) | (simp; omega)) | exact congrArg (fun n => Value.slice _ n _) (by first | omega | (simp; done) | (simp; omega))) (fN _)) ?_   -- loop 1
  · exact ⟨by omega, by simp, by rw [show 512 * 0 = 0 from rfl, List.take_zero, pAt_nil]; exact H⟩
  · rintro ⟨j, bf⟩ ρx w3 ⟨hj, hbf, H⟩
    have hpl : (pAt X (a * 512) (s.take (512 * j))).length = X.length := pAt_len (by rw [List.length_take]; omega)
    refine bk ?_
    refine sq ?_
    refine rg ?_
    first | refine mv (v := .nilIface) rfl rfl ?_ | refine mv (v := .iface _ _) rfl rfl ?_ | refine mv rfl rfl ?_
    refine mv (v := .slice _ _ _) rfl rfl ?_
    refine mc rfl me57_Read ca52 (c_read _ b1 r (512 * j) 512 _ s bf (H.look (b := b1)) (H.look (b := r)) (H.ne_of rfl (y := ⟨r, _, _⟩) (.tail _ (.tail _ (.tail _ (.head _))))) hbf (by omega) (by omega) ⟨by omega, h0.2⟩ ad (hE.fr H.fr h0.1) (by omega)) rfl ?_
    rintro _ w4 ⟨m, k2, e, bf2, rfl, K, hb2l, hIf, hcs⟩
    have HP := H.perm (List.Perm.cons _ ((List.perm_append_comm (l₁ := [_, _, _]) (l₂ := [_])))) 
    replace HP := SH.call (A := [_, _, _]) (M := [_, _]) (HP.perm (List.perm_append_comm (l₁ := [_, _]) (l₂ := [_, _, _]))) K (by simp) (by simp)
    replace H := (HP.perm (List.perm_append_comm (l₁ := [_, _, _]) (l₂ := [_, _]))).perm (List.Perm.cons _ ((List.perm_append_comm (l₁ := [_]) (l₂ := [_, _, _]))))
    simp only [List.cons_append, List.nil_append] at H; clear K HP
    refine mv (v := .tuple _) rfl rfl ?_
    refine xt rfl rfl rfl ?_
    refine xt rfl rfl rfl ?_
    refine asg (v := .int .i64 _) rfl rfl ?_
    first | refine asg (v := .nilIface) rfl rfl ?_ | refine asg (v := .iface _ _) rfl rfl ?_ | refine asg rfl rfl ?_
    refine nl ?_
    refine then_n ?_
    refine sq ?_
    refine sq ?_
    refine rg ?_
    first | refine mv (v := .nilIface) rfl rfl ?_ | refine mv (v := .iface _ _) rfl rfl ?_ | refine mv rfl rfl ?_
    first | refine neqI1 rfl Tryd.underlying48 rfl ?_ | refine neqI0 rfl Tryd.underlying48 rfl ?_ | refine neqIG rfl Tryd.underlying48 (by assumption) rfl ?_
    refine mv (v := .bool _) rfl rfl ?_
    first | refine spd (t := 47) rfl (fun hg1 => ?_) (fun hg1 => ?_) | refine sp (t := 47) rfl (fun hg1 => ?_) (fun hg1 => ?_)   -- guard 1
    · rcases hcs with ⟨_, _, rfl, _⟩ | ⟨hkn, hm, rfl, hk2⟩
      · cases hg1
      obtain rfl : j = n := by omega
      refine gy rfl ?_
      first | refine mv (v := .nilIface) rfl rfl ?_ | refine mv (v := .iface _ _) rfl rfl ?_ | refine mv rfl rfl ?_
      refine gy rfl ?_
      refine lc (v := .iface _ _) rfl (hE.fr H.fr h0.1) sc48 rfl ?_
      refine gy rfl ?_
      refine neW rfl rfl Tryd.underlying48 Tryd.underlying91 rfl rfl rfl rfl ?_
      refine pkT (v := .bool _) rfl rfl rfl ?_
      refine nl ?_
      refine then_n ?_
      first | refine cF rfl rfl ?_ | refine cbF rfl rfl ?_   -- test 1
      refine sk ?_
      refine then_n ?_
      refine sq ?_
      refine rg ?_
      refine mv (v := .int .i64 _) rfl rfl ?_
      refine cvi rfl rfl Tryd.underlying33 (by first | exact w_u64 (by omega) | exact w_u64 (rng_u64 _) | exact m_u64 _) rfl ?_
      refine mv (v := .int .u64 _) rfl rfl ?_
      refine add (c := ((512 * j + m : Nat) : Int)) rfl rfl (by rw [w_u64 (by omega)]; omega) rfl ?_
      refine asg (v := .int .u64 _) rfl rfl ?_
      refine nl ?_
      refine then_n ?_
      refine sq ?_
      refine sq ?_
      refine rg ?_
      refine mv (v := .int .u64 _) rfl rfl ?_
      refine mv (v := .int .u32 _) rfl rfl ?_
      refine cvi rfl rfl Tryd.underlying33 (by first | exact w_u64 (by omega) | exact w_u64 (rng_u64 _) | exact m_u64 _) rfl ?_
      refine gtr rfl rfl rfl ?_
      refine nl ?_
      refine then_n ?_
      first | refine cF rfl (by omega) ?_ | refine cbF rfl (by omega) ?_   -- test 2
      refine sk ?_
      refine then_n ?_
      refine sq ?_
      refine rg ?_
      refine asg (v := .int .i64 _) rfl rfl ?_
      refine nl ?_
      refine then_n ?_
      refine sq ?_
      refine sq ?_
      refine rg ?_
      refine mv (v := .int .i64 _) rfl rfl ?_
      refine gtr rfl rfl rfl ?_
      refine nl ?_
      refine then_n ?_
      first | refine cF rfl (by omega) ?_ | refine cbF rfl (by omega) ?_   -- test 3
      refine sk ?_
      refine then_n ?_
      refine sq ?_
      refine rg ?_
      first | refine mv (v := .nilIface) rfl rfl ?_ | refine mv (v := .iface _ _) rfl rfl ?_ | refine mv rfl rfl ?_
      refine lc (v := .iface _ _) rfl (hE.fr H.fr h0.1) sc48 rfl ?_
      first | refine eqW rfl rfl Tryd.underlying48 Tryd.underlying91 rfl rfl rfl rfl ?_ | refine eqV rfl rfl Tryd.underlying48 rfl ?_
      refine nl ?_
      refine then_n ?_
      first | refine cT rfl rfl ?_ | refine cbT rfl rfl ?_   -- test 4
      refine ex ?_
      refine in_miss rfl ?_
      refine loop_e ?_
      refine in_hit rfl ?_
      refine then_n ?_
      refine sq ?_
      refine sq ?_
      refine rg ?_
      refine mv (v := .int .u64 _) rfl rfl ?_
      refine mv (v := .int .u32 _) rfl rfl ?_
      refine cvi rfl rfl Tryd.underlying33 (by first | exact w_u64 (by omega) | exact w_u64 (rng_u64 _) | exact m_u64 _) rfl ?_
      refine neq rfl rfl rfl ?_
      refine nl ?_
      refine then_n ?_
      first | refine cF rfl (by omega) ?_ | refine cbF rfl (by omega) ?_   -- test 5
      refine sk ?_
      refine then_n ?_
      refine sq ?_
      refine rg ?_
      refine mv (v := .int .u64 _) rfl rfl ?_
      refine asg (v := .int .u64 _) rfl rfl ?_
      refine asg (v := .nilIface) rfl rfl ?_
      refine nl ?_
      refine then_n ?_
      refine rt ?_
      refine fin_r ?_
      refine ⟨rfl, ?_⟩
      have H := H.drop
      rw [hk2, List.take_of_length_le (Nat.le_of_eq hs)] at H
      exact H
    · rcases hcs with ⟨hkn, hm, rfl, hk2, hb2⟩ | ⟨_, _, rfl, _⟩
      rotate_left
      · first | cases hg1 | exact absurd rfl hg1
      refine gn rfl rfl ?_
      refine gn rfl rfl ?_
      refine gn rfl rfl ?_
      refine pkF (v := .bool _) rfl rfl rfl ?_
      refine nl ?_
      refine then_n ?_
      refine cbF rfl rfl ?_
      refine sk ?_
      refine then_n ?_
      refine sq ?_
      refine rg ?_
      refine mv (v := .int .i64 _) rfl rfl ?_
      refine cvi rfl rfl Tryd.underlying33 (by first | exact w_u64 (by omega) | exact w_u64 (rng_u64 _) | exact m_u64 _) rfl ?_
      refine mv (v := .int .u64 _) rfl rfl ?_
      refine add (c := ((512 * j + m : Nat) : Int)) rfl rfl (by rw [w_u64 (by omega)]; omega) rfl ?_
      refine asg (v := .int .u64 _) rfl rfl ?_
      refine nl ?_
      refine then_n ?_
      refine sq ?_
      refine sq ?_
      refine rg ?_
      refine mv (v := .int .u64 _) rfl rfl ?_
      refine mv (v := .int .u32 _) rfl rfl ?_
      refine cvi rfl rfl Tryd.underlying33 (by first | exact w_u64 (by omega) | exact w_u64 (rng_u64 _) | exact m_u64 _) rfl ?_
      refine gtr rfl rfl rfl ?_
      refine nl ?_
      refine then_n ?_
      first | refine cF rfl (by omega) ?_ | refine cbF rfl (by omega) ?_   -- test 6
      refine sk ?_
      refine then_n ?_
      refine sq ?_
      refine rg ?_
      refine asg (v := .int .i64 _) rfl rfl ?_
      refine nl ?_
      refine then_n ?_
      refine sq ?_
      refine sq ?_
      refine rg ?_
      refine mv (v := .int .i64 _) rfl rfl ?_
      refine gtr rfl rfl rfl ?_
      refine nl ?_
      refine then_n ?_
      first | refine cT rfl (by omega) ?_ | refine cbT rfl (by omega) ?_   -- test 7
      refine sq ?_
      refine dr (by kernel_rfl) ?_   -- region 14
      have H := H.drew
      refine hold (fun _ => True) [] ?_
      first | refine tk (i := 0) rfl (by kernel_rfl) rfl trivial (fun _ _ => r_mv (v := .nilIface) rfl) ?_ | refine tk (i := 0) rfl (by kernel_rfl) rfl trivial (fun _ _ => r_mv (v := .iface _ _) rfl) ?_ | refine tk (i := 0) rfl (by kernel_rfl) rfl trivial (fun _ _ => r_mv rfl) ?_
      refine tk (i := 1) rfl (by kernel_rfl) rfl trivial (fun _ _ => r_mv (v := .slice _ _ _) rfl) ?_
      refine tk (i := 2) rfl (by kernel_rfl) rfl trivial (fun _ _ => r_mv (v := .int .i64 _) rfl) ?_
      refine tk (i := 3) rfl (by kernel_rfl) rfl trivial (fun _ _ => r_slhN (512) rfl rfl Tryd.underlying23 sz5_1 (by omega) (by omega)) ?_
      refine tk (i := 4) rfl (by kernel_rfl) rfl trivial (fun _ _ => r_mv (v := .int .u32 _) rfl) ?_
      refine tk (i := 5) rfl (by kernel_rfl) rfl trivial (fun _ _ => r_cvi rfl rfl Tryd.underlying2 (by first | exact w_i64 (by omega) | exact w_i64 (rng_i64 _) | rfl)) ?_
      refine tk (i := 6) rfl (by kernel_rfl) rfl trivial (fun _ _ => r_mv (v := .int .u64 _) rfl) ?_
      refine tk (i := 7) rfl (by kernel_rfl) rfl trivial (fun _ _ => r_cvi rfl rfl Tryd.underlying2 (by first | exact w_i64 (by omega) | exact w_i64 (rng_i64 _) | rfl)) ?_
      refine tk (i := 8) rfl (by kernel_rfl) rfl trivial (fun _ _ => r_add (c := ((a * 512 + 512 * j : Nat) : Int)) rfl rfl (by rw [w_i64 (by omega)]; omega)) ?_
      refine unfree ?_
      refine fo (i := 9) (by kernel_rfl) rfl rfl ?_
      refine mkM [.iface _ _] rfl rfl ?_
      refine nl ?_
      refine then_n ?_
      refine fo (i := 10) (by kernel_rfl) rfl rfl ?_
      refine ncm rfl (na_mem bm) rfl ?_
      refine nl ?_
      refine then_n ?_
      refine holdH H [12] ?_
      first | refine tk (i := 11) rfl (by kernel_rfl) rfl H (fun w' H => r_mv (v := .nilIface) rfl) ?_ | refine tk (i := 11) rfl (by kernel_rfl) rfl H (fun w' H => r_mv (v := .iface _ _) rfl) ?_ | refine tk (i := 11) rfl (by kernel_rfl) rfl H (fun w' H => r_mv rfl) ?_
      refine fb (i := 12) (by kernel_rfl) rfl rfl rfl ?_
      refine mc rfl me40_WriteAt ca48 (c_writeAt _ bm bd L c (a * 512 + 512 * j) 512 512 f2 x1 x3 _ _ _ _ (H.look (b := bm)) (H.look (b := bd)) (RB.allm H hb2l) (by omega) (by omega) hLc (by omega) hc (H.drop.drop.ne_of rfl (y := ⟨bd, _, _⟩) (.head _))) rfl ?_
      rintro _ w5 ⟨rfl, F, hnew⟩
      replace H := H.put (b := bd) F hnew; clear F hnew
      refine nl ?_
      refine then_n ?_
      refine holdH H [] ?_
      refine tk (i := 13) rfl (by kernel_rfl) rfl H (fun w' H => r_mv (v := .tuple _) rfl) ?_
      refine tk (i := 14) rfl (by kernel_rfl) rfl H (fun w' H => r_xt rfl rfl) ?_
      refine tk (i := 15) rfl (by kernel_rfl) rfl H (fun w' H => r_xt rfl rfl) ?_
      refine tk (i := 16) rfl (by kernel_rfl) rfl H (fun w' H => r_asg (v := .int .i64 _) rfl) ?_
      first | refine tk (i := 17) rfl (by kernel_rfl) rfl H (fun w' H => r_asg (v := .nilIface) rfl) ?_ | refine tk (i := 17) rfl (by kernel_rfl) rfl H (fun w' H => r_asg (v := .iface _ _) rfl) ?_ | refine tk (i := 17) rfl (by kernel_rfl) rfl H (fun w' H => r_asg rfl) ?_
      refine da (by kernel_rfl) ?_
      refine then_n ?_
      refine sq ?_
      refine sq ?_
      refine rg ?_
      first | refine mv (v := .nilIface) rfl rfl ?_ | refine mv (v := .iface _ _) rfl rfl ?_ | refine mv rfl rfl ?_
      first | refine neqI1 rfl Tryd.underlying48 rfl ?_ | refine neqI0 rfl Tryd.underlying48 rfl ?_ | refine neqIG rfl Tryd.underlying48 (by assumption) rfl ?_
      refine nl ?_
      refine then_n ?_
      first | refine cF rfl rfl ?_ | refine cbF rfl rfl ?_   -- test 8
      refine sk ?_
      refine then_n ?_
      refine rg ?_
      refine mv (v := .int .u64 _) rfl rfl ?_
      refine mv (v := .int .i64 _) rfl rfl ?_
      refine cvi rfl rfl Tryd.underlying33 (by first | exact w_u64 (by omega) | exact w_u64 (rng_u64 _) | exact m_u64 _) rfl ?_
      refine add (c := ((512 * (j + 1) : Nat) : Int)) rfl rfl (by rw [w_u64 (by omega)]; omega) rfl ?_
      refine asg (v := .int .u64 _) rfl rfl ?_
      refine nl ?_
      refine then_n ?_
      refine sq ?_
      refine rg ?_
      first | refine mv (v := .nilIface) rfl rfl ?_ | refine mv (v := .iface _ _) rfl rfl ?_ | refine mv rfl rfl ?_
      refine lc (v := .iface _ _) rfl (hE.fr H.fr h0.1) sc48 rfl ?_
      first | refine eqW rfl rfl Tryd.underlying48 Tryd.underlying91 rfl rfl rfl rfl ?_ | refine eqV rfl rfl Tryd.underlying48 rfl ?_
      refine nl ?_
      refine then_n ?_
      first | refine cF rfl rfl ?_ | refine cbF rfl rfl ?_   -- test 9
      refine sk ?_
      refine in_n ?_
      refine loop_n ?_
      exact ⟨(j + 1, bf2), (by (try dsimp only); omega), ⟨by omega, hb2l, by rw [hk2, show pAt (pAt X (a * 512) (s.take (512 * j))) (a * 512 + 512 * j) bf2 = pAt X (a * 512) (s.take (512 * (j + 1))) by rw [pAt_pAt (by rw [List.length_take]; omega) (by omega), hb2]; exact congrArg _ (List.take_add ..).symm] at H; exact H⟩, (fC (by first | rfl | exact congrArg (Value.int _) (by first | omega | assumption | (symm; assumption) | (simp; done) | (simp; omega)) | exact congrArg (fun n => Value.slice _ n _) (by first | omega | (simp; done) | (simp; omega))) (fN _)), (by repeat (first | exact Agree.setL rfl Agree.mask | exact Agree.self _ _ | refine Agree.upd rfl ?_ | refine Agree.setL rfl ?_ | refine Agree.mask2 rfl ?_))⟩

end Go.Proofs.YtgmkjndmjnbahaaDoor.X
