/- Walks of functions, printed by a program of this claim. -/
import Derived.Test.YtgmkjndmjnbahaaDoorA7
namespace Go.Proofs.YtgmkjndmjnbahaaDoor.X
set_option linter.unusedVariables false
set_option linter.unusedSimpArgs false
open Go Go.RowKit

namespace A8
theorem fo54_0 : fieldOff Tryd.prog 54 0 = some 0 := by kernel_rfl
theorem sc23 : scalarB Tryd.prog 23 = true := by kernel_rfl
theorem sz5_1 : sizeB Tryd.prog 5 1 = true := by kernel_rfl

end A8
open A8

set_option maxRecDepth 100000 in
set_option maxHeartbeats 1000000 in
theorem c_readAt (w : World) (bm bd b2 L c k o n c2 : Nat) (x1 x2 x3 : Value) (T T2 : TypeId) (fr : Nat × Nat) (cur ds : List UInt8) (hm : w.heap[bm]? = some (.cells [.slice (some ⟨bd, 0, none⟩) L c, x1, x2, x3].toArray 54 (0, 0))) (hd : w.heap[bd]? = some (.cells (Bs cur).toArray T fr)) (h2 : w.heap[b2]? = some (.cells (Bs ds).toArray T2 (0, 0))) (hne : b2 ≠ bm ∧ b2 ≠ bd) (hk : k + n ≤ L) (hL : L ≤ cur.length) (hLc : L ≤ c) (hn : 0 < n) (hn2 : o + n ≤ ds.length) (hc : L ≤ 1000000000) : Calls Tryd.prog 47 #[.pointer (some ⟨bm, 0, none⟩), .slice (some ⟨b2, o, none⟩) n c2, .int .i64 (k : Int)] w (Ret fun v w' => v = .tuple #[.int .i64 (n : Int), .nilIface] ∧ Fr [b2] w w' ∧ w'.heap[b2]? = some (.cells (Bs (pAt ds o ((cur.drop k).take n))).toArray T2 (0, 0))) := by
  refine enter (fun ρ => .tuple #[ρ 6, ρ 7]) Tryd.func47 rfl rfl rfl (res2 rfl) ?_
  have H : SH w [b2] w [⟨b2, .cells (Bs ds).toArray T2 (0, 0), true⟩, ⟨bm, .cells [.slice (some ⟨bd, 0, none⟩) L c, x1, x2, x3].toArray 54 (0, 0), false⟩, ⟨bd, .cells (Bs cur).toArray T fr, false⟩] := SH.init [b2] _ (by simp [hm, hd, h2]) (by simp [hne.1, hne.2]) (by simp)
  refine sq ?_
  refine rg ?_
  refine asg (v := .int .i64 _) rfl rfl ?_
  refine asg (v := .nilIface) rfl rfl ?_
  refine nl ?_
  refine then_n ?_
  refine sq ?_
  refine sq ?_
  refine rg ?_
  refine mv (v := .int .i64 _) rfl rfl ?_
  refine lss rfl rfl rfl ?_
  refine nl ?_
  refine then_n ?_
  first | refine cF rfl (by omega) ?_ | refine cbF rfl (by omega) ?_   -- test 1
  refine sk ?_
  refine then_n ?_
  refine sq ?_
  refine sq ?_
  refine rg ?_
  refine mv (v := .slice _ _ _) rfl rfl ?_
  refine lnS rfl Tryd.underlying23 rfl ?_
  refine eql rfl rfl rfl ?_
  refine nl ?_
  refine then_n ?_
  first | refine cF rfl (by omega) ?_ | refine cbF rfl (by omega) ?_   -- test 2
  refine sk ?_
  refine then_n ?_
  refine sq ?_
  refine sq ?_
  refine rg ?_
  refine mv (v := .int .i64 _) rfl rfl ?_
  refine mv (v := .pointer _) rfl rfl ?_
  first | refine nc rfl rfl ?_ | refine nci rfl rfl ?_
  refine fa rfl fo54_0 rfl ?_
  first | refine ld H rfl sc23 rfl rfl ?_ | refine lc rfl (by first | assumption | exact H.fr.cell (by assumption) (by simp)) sc23 rfl ?_ | refine ld H rfl sc23 (by assumption) rfl ?_
  refine lnS rfl Tryd.underlying23 rfl ?_
  refine geq rfl rfl rfl ?_
  refine nl ?_
  refine then_n ?_
  first | refine cF rfl (by omega) ?_ | refine cbF rfl (by omega) ?_   -- test 3
  refine sk ?_
  refine then_n ?_
  refine sq ?_
  refine rg ?_
  refine mv (v := .slice _ _ _) rfl rfl ?_
  refine mv (v := .pointer _) rfl rfl ?_
  first | refine nc rfl rfl ?_ | refine nci rfl rfl ?_
  refine fa rfl fo54_0 rfl ?_
  first | refine ld H rfl sc23 rfl rfl ?_ | refine lc rfl (by first | assumption | exact H.fr.cell (by assumption) (by simp)) sc23 rfl ?_ | refine ld H rfl sc23 (by assumption) rfl ?_
  refine mv (v := .int .i64 _) rfl rfl ?_
  refine sll rfl rfl Tryd.underlying23 sz5_1 (by first | trivial | omega | (simp; omega)) rfl ?_
  refine cpB H rfl rfl Tryd.underlying23 sz5_1 (RB.of (b := bd) (n := L - k) H (by omega)) (by omega) (by omega) rfl ?_
  clear H; intro w1 H _
  have hmin : min (L - k) n = n := by omega
  refine asg (v := .int .i64 _) rfl rfl ?_
  refine nl ?_
  refine then_n ?_
  refine sq ?_
  refine sq ?_
  refine rg ?_
  refine mv (v := .int .i64 _) rfl rfl ?_
  refine mv (v := .slice _ _ _) rfl rfl ?_
  refine lnS rfl Tryd.underlying23 rfl ?_
  refine lss rfl rfl rfl ?_
  refine nl ?_
  refine then_n ?_
  first | refine cF rfl (by omega) ?_ | refine cbF rfl (by omega) ?_   -- test 4
  refine sk ?_
  refine then_n ?_
  refine sq ?_
  refine rg ?_
  refine mv (v := .int .i64 _) rfl rfl ?_
  refine asg (v := .int .i64 _) rfl rfl ?_
  refine asg (v := .nilIface) rfl rfl ?_
  refine nl ?_
  refine then_n ?_
  refine rt ?_
  refine fin_r ?_
  have e := H.look (b := b2)
  refine ⟨?_, H.fr, ?_⟩
  · show Value.tuple #[.int .i64 ((min (L - (k : Int).toNat) n : Nat) : Int), .nilIface] = _
    rw [show (min (L - (k : Int).toNat) n : Nat) = n by omega]
  rw [e]
  have e0 : 0 + (k : Int).toNat * 1 = k := by omega
  have e1 : (((cur.drop k).take (L - k)).take n) = (cur.drop k).take n := by rw [List.take_take]; congr 1; omega
  have e2 : ((cur.drop k).take n).length = n := by simp; omega
  unfold pAt
  rw [e0, show min (L - (k : Int).toNat) n = n by omega, e2]
  show some (Obj.cells (Bs (ds.take o ++ ((cur.drop k).take (L - k)).take n ++ ds.drop (o + n))).toArray T2 (0, 0)) = _
  rw [e1]

end Go.Proofs.YtgmkjndmjnbahaaDoor.X
