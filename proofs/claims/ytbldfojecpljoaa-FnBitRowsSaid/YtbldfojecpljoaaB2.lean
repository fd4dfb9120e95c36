/- Walks of functions, printed by a program of this claim. -/
import Derived.Test.YtbldfojecpljoaaB1
namespace Go.Proofs.Ytbldfojecpljoaa.X
set_option linter.unusedVariables false
set_option linter.unusedSimpArgs false
open Go Go.RowKit

namespace B2
theorem ca18 : callable Try.prog 18 = true := by kernel_rfl
theorem ca19 : callable Try.prog 19 = true := by kernel_rfl
theorem ca38 : callable Try.prog 38 = true := by kernel_rfl
theorem ca39 : callable Try.prog 39 = true := by kernel_rfl
theorem ca40 : callable Try.prog 40 = true := by kernel_rfl
theorem ca41 : callable Try.prog 41 = true := by kernel_rfl

end B2
open B2

set_option maxRecDepth 100000 in
theorem c_BitNew (w : World) (k : Nat) (hk : k ≤ 1048576) : Calls Try.prog 18 #[.int .i64 (k : Int)] w (Ret fun v w' => v = .string (str (List.replicate ((k + 7) / 8) 0)) ∧ Fr [] w w') := by
  refine enter (fun ρ => ρ 2) Try.func18 rfl rfl rfl (res1 rfl) ?_
  have H := SH.nil w
  refine sq ?_
  refine rg ?_
  refine asg (v := .string _) rfl rfl ?_
  refine nl ?_
  refine then_n ?_
  refine sq ?_
  refine sq ?_
  refine rg ?_
  refine mv (v := .int .i64 _) rfl rfl ?_
  refine gtr rfl rfl rfl ?_
  refine nl ?_
  refine then_n ?_
  first | refine cF rfl (by omega) ?_ | refine cbF rfl (by omega) ?_   -- test 1
  refine sk ?_
  refine then_n ?_
  refine sq ?_
  refine rg ?_
  refine mv (v := .int .i64 _) rfl rfl ?_
  refine cl ca38 (c_newBits _ _ (by omega)) rfl ?_
  rintro _ w1 ⟨bm1, bb1, rfl, hbm, hbb, hne, h4, h5, F⟩
  replace H := H.new2 F hbm hbb hne h4 h5; clear F h4 h5
  refine cl ca39 (c_toBytes _ _ _ _ _ (by first | assumption | (simp; done) | omega) H.look H.look (by first | omega | (simp; omega))) rfl ?_
  rintro _ w2 ⟨b2, rfl, hge, hnew, F⟩
  replace H := H.new F hge hnew; clear F hnew
  refine cvBS rfl (by exact RB.allm H (by simp)) Try.underlying23 Try.underlying5 Try.underlying9 rfl ?_
  refine asg (v := .string _) rfl rfl ?_
  refine nl ?_
  refine then_n ?_
  refine rt ?_
  refine fin_r ?_
  exact ⟨rfl, H.fr⟩

set_option maxRecDepth 100000 in
theorem c_FnBitNew (w : World) (x : Int) (hx : 0 ≤ x ∧ x ≤ 65535) : Calls Try.prog 5 #[.int .u16 x] w (Ret fun v w' => v = .bool true ∧ Fr [] w w') := by
  refine enter (fun ρ => ρ 2) Try.func5 rfl rfl rfl (res1 rfl) ?_
  have H := SH.nil w
  obtain ⟨k, hk⟩ : ∃ k : Nat, x % 2000 = k := ⟨(x % 2000).toNat, by omega⟩
  have hk2 : k < 2000 := by omega
  refine sq ?_
  refine rg ?_
  refine asg (v := .bool _) rfl rfl ?_
  refine nl ?_
  refine then_n ?_
  refine sq ?_
  refine rg ?_
  refine mv (v := .int .u16 _) rfl rfl ?_
  refine rem (c := (k : Int)) rfl rfl (by omega) (by omega) hk rfl ?_
  refine cvi rfl rfl Try.underlying3 (by first | exact w_i64 (by omega) | exact w_i64 (rng_i64 _) | rfl) rfl ?_
  refine cl ca18 (c_BitNew _ _ (by omega)) rfl ?_
  rintro _ w1 ⟨rfl, F⟩
  replace H := H.keep F; clear F
  refine asg (v := .string _) rfl rfl ?_
  refine nl ?_
  refine then_n ?_
  refine sq ?_
  refine rg ?_
  refine mv (v := .string _) rfl rfl ?_
  refine lnT rfl Try.underlying9 rfl ?_
  refine mv (v := .int .u16 _) rfl rfl ?_
  refine rem (c := (k : Int)) rfl rfl (by omega) (by omega) hk rfl ?_
  refine cvi rfl rfl Try.underlying3 (by first | exact w_i64 (by omega) | exact w_i64 (rng_i64 _) | rfl) rfl ?_
  refine add rfl rfl (by first | exact w_i64 (by omega) | exact w_i64 (rng_i64 _) | rfl) rfl ?_
  refine quo rfl rfl (by omega) (by omega) (by first | exact w_i64 (by omega) | exact w_i64 (rng_i64 _) | rfl) rfl ?_
  refine eql rfl rfl rfl ?_
  refine mv (v := .bool _) rfl rfl ?_
  first | refine spL (t := 16) (b := true) rfl ?_ | refine spT (t := 16) rfl (by rw [size_str, List.length_replicate]; omega) ?_   -- guard 1
  refine gy rfl ?_
  refine mv (v := .string _) rfl rfl ?_
  refine gy rfl ?_
  refine cl ca19 (c_allZero _ _ (by omega)) rfl ?_
  rintro _ w2 ⟨rfl, F⟩
  replace H := H.keep F; clear F
  refine pkT (v := .bool _) rfl rfl rfl ?_
  refine mv (v := .bool _) rfl rfl ?_
  first | refine spL (t := 20) (b := true) rfl ?_ | refine spT (t := 20) rfl rfl ?_   -- guard 2
  refine gy rfl ?_
  refine cl ca18 (c_BitNew _ 9 (by decide)) rfl ?_
  rintro _ w3 ⟨rfl, F⟩
  replace H := H.keep F; clear F
  refine gy rfl ?_
  refine lnT rfl Try.underlying9 rfl ?_
  refine gy rfl ?_
  refine eql rfl rfl rfl ?_
  refine pkT (v := .bool _) rfl rfl rfl ?_
  refine asg (v := .bool _) rfl rfl ?_
  refine nl ?_
  refine then_n ?_
  refine rt ?_
  refine fin_r ?_
  refine ⟨congrArg Value.bool ?_, H.fr⟩
  rw [size_str]; simp

set_option maxRecDepth 100000 in
theorem c_someBits (w : World) (bs : List UInt8) (hb : bs.length ≤ 9223372036854775807) : Calls Try.prog 20 #[.string (str bs)] w (Ret fun v w' => v = .string (str (bs.take 100)) ∧ Fr [] w w') := by
  refine enter (fun ρ => ρ 2) Try.func20 rfl rfl rfl (res1 rfl) ?_
  have H := SH.nil w
  have hsz := size_str bs
  refine sq ?_
  refine rg ?_
  refine asg (v := .string _) rfl rfl ?_
  refine nl ?_
  refine then_n ?_
  refine sq ?_
  refine rg ?_
  refine mv (v := .string _) rfl rfl ?_
  refine mv (v := .string _) rfl rfl ?_
  refine lnT rfl Try.underlying9 rfl ?_
  refine min2 rfl rfl rfl ?_
  refine slTh rfl rfl Try.underlying9 (by first | trivial | omega | (simp; omega)) rfl ?_
  refine asg (v := .string _) rfl rfl ?_
  refine nl ?_
  refine then_n ?_
  refine rt ?_
  refine fin_r ?_
  refine ⟨?_, H.fr⟩
  show Value.string (str (bs.take (min ((str bs).size : Int) 100).toNat)) = _
  rw [size_str]
  congr 2
  by_cases h : bs.length ≤ 100
  · rw [List.take_of_length_le (by omega), List.take_of_length_le h]
  · congr 1; omega

set_option maxRecDepth 100000 in
theorem c_bitAt (w : World) (bs : List UInt8) (k : Nat) (hk : k < bs.length * 8) (hl : bs.length ≤ 1000000000) : Calls Try.prog 22 #[.string (str bs), .int .i64 (k : Int)] w (Ret fun v w' => v = .bool (bitAt bs k) ∧ Fr [] w w') := by
  refine enter (fun ρ => ρ 4) Try.func22 rfl rfl rfl (res1 rfl) ?_
  have H := SH.nil w
  refine sq ?_
  refine rg ?_
  refine asg (v := .bool _) rfl rfl ?_
  refine nl ?_
  refine then_n ?_
  refine sq ?_
  refine rg ?_
  refine mv (v := .string _) rfl rfl ?_
  refine mv (v := .int .i64 _) rfl rfl ?_
  refine quo rfl rfl (by omega) (by omega) (by first | exact w_i64 (by omega) | exact w_i64 (rng_i64 _) | rfl) rfl ?_
  refine ixS rfl rfl Try.underlying9 (by first | omega | (constructor <;> simp <;> omega)) rfl ?_; intro hu1
  refine mv (v := .int .i64 _) rfl rfl ?_
  refine rem rfl rfl (by omega) (by omega) rfl rfl ?_
  refine shr rfl rfl (by omega) rfl rfl ?_
  refine band rfl rfl rfl rfl ?_
  refine eql rfl rfl rfl ?_
  refine asg (v := .bool _) rfl rfl ?_
  refine nl ?_
  refine then_n ?_
  refine rt ?_
  refine fin_r ?_
  refine ⟨congrArg Value.bool ?_, H.fr⟩
  have h := tb_shift (bs.getD (k / 8) 0) (k % 8) (by omega)
  have e1 : ((k : Int) / 8).toNat = k / 8 := by omega
  have e2 : ((k : Int) % 8).toNat = k % 8 := by omega
  rw [e1, e2]
  unfold bitAt
  rw [Bool.eq_iff_iff]
  rw [← h]
  simp [IntKind.bits]

set_option maxRecDepth 100000 in
theorem c_BitIs (w : World) (bs : List UInt8) (k : Nat) (hk : k < bs.length * 8) (hl : bs.length ≤ 1000000000) : Calls Try.prog 21 #[.string (str bs), .int .i64 (k : Int)] w (Ret fun v w' => v = .tuple #[.bool (bitAt bs k), .bool true] ∧ Fr [] w w') := by
  refine enter (fun ρ => .tuple #[ρ 4, ρ 5]) Try.func21 rfl rfl rfl (res2 rfl) ?_
  have H := SH.nil w
  have hsz := size_str bs
  refine sq ?_
  refine rg ?_
  refine asg (v := .bool _) rfl rfl ?_
  refine asg (v := .bool _) rfl rfl ?_
  refine nl ?_
  refine then_n ?_
  refine sq ?_
  refine sq ?_
  refine rg ?_
  refine mv (v := .int .i64 _) rfl rfl ?_
  refine geq rfl rfl rfl ?_
  refine mv (v := .bool _) rfl rfl ?_
  first | refine spL (t := 9) (b := true) rfl ?_ | refine spT (t := 9) rfl (by omega) ?_   -- guard 1
  refine gy rfl ?_
  refine mv (v := .int .i64 _) rfl rfl ?_
  refine gy rfl ?_
  refine quo rfl rfl (by omega) (by omega) (by first | exact w_i64 (by omega) | exact w_i64 (rng_i64 _) | rfl) rfl ?_
  refine gy rfl ?_
  refine mv (v := .string _) rfl rfl ?_
  refine gy rfl ?_
  refine lnT rfl Try.underlying9 rfl ?_
  refine gy rfl ?_
  refine eql rfl rfl rfl ?_
  refine pkT (v := .bool _) rfl rfl rfl ?_
  refine nl ?_
  refine then_n ?_
  first | refine cF rfl (by omega) ?_ | refine cbF rfl (by omega) ?_   -- test 1
  refine sk ?_
  refine then_n ?_
  refine sq ?_
  refine rg ?_
  refine mv (v := .string _) rfl rfl ?_
  refine cvSB H rfl Try.underlying9 Try.underlying23 Try.underlying5 rfl ?_
  clear H; intro b1 cp1 w1 hb1 hcp1 H _
  refine cl ca40 (c_fromBytes _ _ _ _ _ (by first | exact RB.pre H | exact RB.all H | assumption) (by omega)) rfl ?_
  rintro _ w2 ⟨bm2, bb2, rfl, hbm, hbb, hne, h4, h5, F⟩
  replace H := H.new2 F hbm hbb hne h4 h5; clear F h4 h5
  refine mv (v := .int .i64 _) rfl rfl ?_
  refine cl ca41 (c_isSet _ _ _ _ _ (by first | assumption | omega) H.look H.look (by omega) _ (by omega)) rfl ?_
  rintro _ w3 ⟨rfl, F⟩
  replace H := H.keep F; clear F
  refine mv (v := .tuple _) rfl rfl ?_
  refine xt rfl rfl rfl ?_
  refine xt rfl rfl rfl ?_
  refine asg (v := .bool _) rfl rfl ?_
  first | refine asg (v := .nilIface) rfl rfl ?_ | refine asg (v := .iface _ _) rfl rfl ?_ | refine asg rfl rfl ?_
  refine nl ?_
  refine then_n ?_
  refine sq ?_
  refine dr (by kernel_rfl) ?_   -- region 4
  have H := H.drew
  refine holdH H [] ?_
  refine tk (i := 0) rfl (by kernel_rfl) rfl H (fun w' H => r_mv (v := .bool _) rfl) ?_
  first | refine tk (i := 1) rfl (by kernel_rfl) rfl H (fun w' H => r_mv (v := .nilIface) rfl) ?_ | refine tk (i := 1) rfl (by kernel_rfl) rfl H (fun w' H => r_mv (v := .iface _ _) rfl) ?_ | refine tk (i := 1) rfl (by kernel_rfl) rfl H (fun w' H => r_mv rfl) ?_
  first | refine tk (i := 2) rfl (by kernel_rfl) rfl H (fun w' H => r_eqlI1 rfl Try.underlying72) ?_ | refine tk (i := 2) rfl (by kernel_rfl) rfl H (fun w' H => r_eqlI0 rfl Try.underlying72) ?_
  refine tk (i := 3) rfl (by kernel_rfl) rfl H (fun w' H => r_asg (v := .bool _) rfl) ?_
  refine tk (i := 4) rfl (by kernel_rfl) rfl H (fun w' H => r_asg (v := .bool _) rfl) ?_
  refine da (by kernel_rfl) ?_
  refine then_n ?_
  refine rt ?_
  refine fin_r ?_
  exact ⟨rfl, H.fr⟩

end Go.Proofs.Ytbldfojecpljoaa.X
