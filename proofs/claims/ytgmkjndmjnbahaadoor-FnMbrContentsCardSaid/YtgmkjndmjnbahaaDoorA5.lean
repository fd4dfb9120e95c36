/- Walks of functions, printed by a program of this claim. -/
import Derived.Test.YtgmkjndmjnbahaaDoorA4
import Derived.Test.YtgmkjndmjnbahaaDoorJoin
namespace Go.Proofs.YtgmkjndmjnbahaaDoor.X
set_option linter.unusedVariables false
set_option linter.unusedSimpArgs false
open Go Go.RowKit

namespace A5
theorem ag105_0 : aggB Tryd.prog 105 0 = true := by kernel_rfl
theorem bo54 : buildOK Tryd.prog 54 = true := by kernel_rfl
theorem ca28 : callable Tryd.prog 28 = true := by kernel_rfl
theorem ca29 : callable Tryd.prog 29 = true := by kernel_rfl
theorem pl54_0 : placeOf Tryd.prog 54 0 = some (0, 1) := by kernel_rfl
theorem sz5_1 : sizeB Tryd.prog 5 1 = true := by kernel_rfl
theorem ze54 : zeroL Tryd.prog 54 = some [.slice none 0 0, .int .i64 0, .bool false, .slice none 0 0] := by kernel_rfl

end A5
open A5

set_option maxRecDepth 100000 in
set_option maxHeartbeats 1000000 in
theorem c_readUUID (w : World) (b c : Nat) (T : TypeId) (fr : Nat × Nat) (cur : List UInt8) (hb : w.heap[b]? = some (.cells (Bs cur).toArray T fr)) (hc : 512 ≤ c) (hl : 512 ≤ cur.length) : Calls Tryd.prog 25 #[.slice (some ⟨b, 0, none⟩) 512 c] w (Ret fun v w' => (∃ u, v = .string (str u) ∧ u.length ≤ 8) ∧ Fr [] w w') := by
  refine enter (fun ρ => ρ 2) Tryd.func25 rfl rfl rfl (res1 rfl) ?_
  have H := SH.ro1 hb
  have hv := leV_rng ((cur.drop (0 + (440 : Int).toNat * 1)).take 4)
  have hvl : ((cur.drop (0 + (440 : Int).toNat * 1)).take 4).length = 4 := by simp; omega
  rw [hvl] at hv
  have p4 : (256 : Int) ^ 4 = 4294967296 := by decide
  refine sq ?_
  refine rg ?_
  refine asg (v := .string _) rfl rfl ?_
  refine nl ?_
  refine then_n ?_
  refine sq ?_
  refine rg ?_
  refine mv (v := .slice _ _ _) rfl rfl ?_
  refine sllh rfl rfl rfl Tryd.underlying23 sz5_1 (by first | trivial | omega | (simp; omega)) rfl ?_
  refine asg (v := .slice _ _ _) rfl rfl ?_
  refine nl ?_
  refine then_n ?_
  refine sq ?_
  refine rg ?_
  refine lw (ad := ⟨1, 0, none⟩) (vs := []) rfl ag105_0 rfl (by simp) rfl ?_
  refine mv (v := .slice _ _ _) rfl rfl ?_
  refine cl ca29 (c_uint32 _ _ _ _ _ _ _ _ H.look (by omega) (by omega)) rfl ?_
  rintro _ w1 ⟨rfl, F⟩
  replace H := H.keep F; clear F
  refine cl ca28 (c_zzHex _ _ _ (by omega) (by decide)) rfl ?_
  rintro _ w2 ⟨⟨sx, rfl, hsx⟩, F⟩
  replace H := H.keep F; clear F
  refine asg (v := .string _) rfl rfl ?_
  refine nl ?_
  refine then_n ?_
  refine rt ?_
  refine fin_r ?_
  exact ⟨⟨_, rfl, by assumption⟩, H.fr⟩

set_option maxRecDepth 100000 in
set_option maxHeartbeats 1000000 in
theorem c_memoryOf (w : World) (s : List UInt8) (hs : s.length ≤ 100000000) : Calls Tryd.prog 10 #[.string (str s)] w (Ret fun v w' => ∃ b d c, v = .pointer (some ⟨b, 0, none⟩) ∧ s.length ≤ c ∧ SH w [] w' [⟨b, .cells [.slice (some ⟨d, 0, none⟩) s.length c, .int .i64 0, .bool false, .slice none 0 0].toArray 54 (0, 0), true⟩, ⟨d, .cells (Bs (s ++ List.replicate (c - s.length) 0)).toArray 5 (c, c + 1), true⟩]) := by
  refine enter (fun ρ => ρ 2) Tryd.func10 rfl rfl rfl (res1 rfl) ?_
  have H := SH.nil w
  refine sq ?_
  refine rg ?_
  refine asg (v := .pointer _) rfl rfl ?_
  refine nl ?_
  refine then_n ?_
  refine sq ?_
  refine rg ?_
  refine mv (v := .string _) rfl rfl ?_
  refine cvSB H rfl Tryd.underlying9 Tryd.underlying23 Tryd.underlying5 rfl ?_
  clear H; intro b1 cp1 w1 hb1 hcp1 H _
  refine bu (out := ?o1) ze54 bo54 ?f1 rfl ?_
  case f1 =>
    refine FL.one (v := .slice _ _ _) rfl pl54_0 rfl (by first | decide | simp) ?_
    exact FL.nil
  refine bx (v := .agg _) H rfl rfl rfl ?_
  clear H; intro b2 w2 hb2 H _
  refine asg (v := .pointer _) rfl rfl ?_
  refine nl ?_
  refine then_n ?_
  refine rt ?_
  refine fin_r ?_
  exact ⟨_, _, _, rfl, by assumption, H⟩

end Go.Proofs.YtgmkjndmjnbahaaDoor.X
