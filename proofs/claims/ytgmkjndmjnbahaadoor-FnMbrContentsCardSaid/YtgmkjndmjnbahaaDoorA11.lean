/- Walks of functions, printed by a program of this claim. -/
import Derived.Test.YtgmkjndmjnbahaaDoorA10
namespace Go.Proofs.YtgmkjndmjnbahaaDoor.X
set_option linter.unusedVariables false
set_option linter.unusedSimpArgs false
open Go Go.RowKit

namespace A11
theorem ca22 : callable Tryd.prog 22 = true := by kernel_rfl
theorem ca47 : callable Tryd.prog 47 = true := by kernel_rfl
theorem me40_ReadAt : ∀ (v : Value) (w : World), (method (Tryd.prog.types.size + Made.depth) 40 v "ReadAt").run Tryd.prog w = .ok (47, v) w := fun v w => by kernel_rfl
theorem mi5 : elemInfo Tryd.prog 5 = some (.int .u8 0, 1) := by kernel_rfl

end A11
open A11

set_option maxRecDepth 100000 in
set_option maxHeartbeats 1000000 in
theorem c_mbrRead (w : World) (bm bd c : Nat) (x1 x2 x3 : Value) (fr : Nat × Nat) (T : TypeId) (cur junk : List UInt8) (hm : w.heap[bm]? = some (.cells [.slice (some ⟨bd, 0, none⟩) cur.length c, x1, x2, x3].toArray 54 (0, 0))) (hd : w.heap[bd]? = some (.cells (Bs (cur ++ junk)).toArray T fr)) (hl : 512 ≤ cur.length ∧ cur.length ≤ 1000000000 ∧ cur.length ≤ c) (hf : flagsB (cur.take 512)) : Calls Tryd.prog 16 #[.iface 40 (.pointer (some ⟨bm, 0, none⟩)), .int .i64 512, .int .i64 512] w (Ret fun v w' => ∃ a e, v = .tuple #[.pointer a, e] ∧ Ifc e ∧ Fr [] w w' ∧ isIf e = !sigB (cur.take 512) ∧ (sigB (cur.take 512) = true → MadeTab 67 42 76 w w' (cur.take 512) (.pointer a))) := by
  refine enter (fun ρ => .tuple #[ρ 6, ρ 7]) Tryd.func16 rfl rfl rfl (res2 rfl) ?_
  have H := SH.ro2 hm hd
  refine sq ?_
  refine rg ?_
  refine asg (v := .pointer _) rfl rfl ?_
  refine asg (v := .nilIface) rfl rfl ?_
  refine nl ?_
  refine then_n ?_
  refine sq ?_
  refine rg ?_
  refine mkB H rfl rfl Tryd.underlying23 mi5 (by omega) (by omega) (by omega) (by omega) rfl ?_
  clear H; intro b1 w1 hb1 H _
  refine asg (v := .slice _ _ _) rfl rfl ?_
  refine nl ?_
  refine then_n ?_
  refine sq ?_
  refine rg ?_
  first | refine mv (v := .nilIface) rfl rfl ?_ | refine mv (v := .iface _ _) rfl rfl ?_ | refine mv rfl rfl ?_
  refine mv (v := .slice _ _ _) rfl rfl ?_
  refine mc rfl me40_ReadAt ca47 (c_readAt _ bm bd b1 cur.length c 0 0 512 512 x1 x2 x3 _ _ fr (cur ++ junk) (List.replicate 512 0) (H.look (b := bm)) (H.look (b := bd)) (H.look (b := b1)) ⟨fun h => by have := lt_of_at hm; omega, fun h => by have := lt_of_at hd; omega⟩ (by omega) (by simp) (by omega) (by omega) (by simp) (by omega)) rfl ?_
  rintro _ w2 ⟨rfl, F, hnew⟩
  replace H := H.put F hnew
  have hXe : pAt (List.replicate 512 0) 0 (((cur ++ junk).drop 0).take 512) = cur.take 512 := by
    have h5 : (cur.take 512).length = 512 := by simp; omega
    rw [List.drop_zero, List.take_append_of_le_length (by omega)]
    unfold pAt
    rw [h5]; simp
  rw [hXe] at H
  clear F hnew hXe
  have hX : (cur.take 512).length = 512 := by simp; omega
  refine mv (v := .tuple _) rfl rfl ?_
  refine xt rfl rfl rfl ?_
  refine xt rfl rfl rfl ?_
  refine asg (v := .int .i64 _) rfl rfl ?_
  first | refine asg (v := .nilIface) rfl rfl ?_ | refine asg (v := .iface _ _) rfl rfl ?_ | refine asg rfl rfl ?_
  refine nl ?_
  refine then_n ?_
  refine sq ?_
  refine sq ?_
  refine rg ?_
  first | refine mv (v := .nilIface) rfl rfl ?_ | refine mv (v := .iface _ _) rfl rfl ?_ | refine mv rfl rfl ?_
  first | refine neqI1 rfl Tryd.underlying48 rfl ?_ | refine neqI0 rfl Tryd.underlying48 rfl ?_ | refine neqIG rfl Tryd.underlying48 (by assumption) rfl ?_
  refine nl ?_
  refine then_n ?_
  first | refine cF rfl rfl ?_ | refine cbF rfl rfl ?_   -- test 1
  refine sk ?_
  refine then_n ?_
  refine sq ?_
  refine sq ?_
  refine rg ?_
  refine mv (v := .int .i64 _) rfl rfl ?_
  refine mv (v := .slice _ _ _) rfl rfl ?_
  refine lnS rfl Tryd.underlying23 rfl ?_
  refine neq rfl rfl rfl ?_
  refine nl ?_
  refine then_n ?_
  first | refine cF rfl (by omega) ?_ | refine cbF rfl (by omega) ?_   -- test 2
  refine sk ?_
  refine then_n ?_
  refine sq ?_
  refine rg ?_
  refine mv (v := .slice _ _ _) rfl rfl ?_
  refine cl ca22 (c_tableFrom _ _ _ _ _ H.look (by omega) hX hf) rfl ?_
  rintro _ w3 ⟨a, e, rfl, he, F, hie, hM⟩
  refine xt rfl rfl rfl ?_
  refine xt rfl rfl rfl ?_
  refine asg (v := .pointer _) rfl rfl ?_
  first | refine asg (v := .nilIface) rfl rfl ?_ | refine asg (v := .iface _ _) rfl rfl ?_ | refine asg rfl rfl ?_
  refine nl ?_
  refine then_n ?_
  refine rt ?_
  refine fin_r ?_
  exact ⟨a, e, rfl, he, H.fr.trans F, hie, fun h => let ⟨t, r, cap, jk, l, uu, g1, g2, g3, g4⟩ := hM h; ⟨t, r, cap, jk, l, uu, g1, g2, g3, SH.back H.fr g4⟩⟩

end Go.Proofs.YtgmkjndmjnbahaaDoor.X
