/- Walks of functions, printed by a program of this claim. -/
import Derived.Test.YtbldfojecpljoaaB2
namespace Go.Proofs.Ytbldfojecpljoaa.X
set_option linter.unusedVariables false
set_option linter.unusedSimpArgs false
open Go Go.RowKit

namespace B3
theorem ca20 : callable Try.prog 20 = true := by kernel_rfl
theorem ca21 : callable Try.prog 21 = true := by kernel_rfl
theorem ca22 : callable Try.prog 22 = true := by kernel_rfl
theorem ca27 : callable Try.prog 27 = true := by kernel_rfl
theorem ca28 : callable Try.prog 28 = true := by kernel_rfl
theorem ca39 : callable Try.prog 39 = true := by kernel_rfl
theorem ca40 : callable Try.prog 40 = true := by kernel_rfl
theorem ca41 : callable Try.prog 41 = true := by kernel_rfl
theorem ca44 : callable Try.prog 44 = true := by kernel_rfl
theorem ca45 : callable Try.prog 45 = true := by kernel_rfl
theorem sc5 : scalarB Try.prog 5 = true := by kernel_rfl
theorem sz5_1 : sizeB Try.prog 5 1 = true := by kernel_rfl

end B3
open B3

set_option maxRecDepth 100000 in
theorem c_BitIsErr (w : World) (bs : List UInt8) (n : Int) (hn : n < 0 ∨ (bs.length : Int) * 8 ≤ n) (hn2 : n ≤ 9223372036854775807) (hl : bs.length ≤ 1000000000) : Calls Try.prog 21 #[.string (str bs), .int .i64 n] w (Ret fun v w' => v = .tuple #[.bool false, .bool false] ∧ Fr [] w w') := by
  refine enter (fun ρ => .tuple #[ρ 4, ρ 5]) Try.func21 rfl rfl rfl (res2 rfl) ?_
  have H := SH.nil w
  have hsz := size_str bs
  refine sq ?_
  refine rg ?_
  refine asg (v := .bool _) rfl rfl ?_
  refine asg (v := .bool _) rfl rfl ?_
  refine nl ?_
  refine then_n ?_
  refine sq ?_
  refine sq ?_
  refine rg ?_
  refine mv (v := .int .i64 _) rfl rfl ?_
  refine geq rfl rfl rfl ?_
  refine mv (v := .bool _) rfl rfl ?_
  first | refine spd (t := 9) rfl (fun hg1 => ?_) (fun hg1 => ?_) | refine sp (t := 9) rfl (fun hg1 => ?_) (fun hg1 => ?_)   -- guard 1
  · refine gy rfl ?_
    refine mv (v := .int .i64 _) rfl rfl ?_
    refine gy rfl ?_
    refine quo rfl rfl (by omega) (by omega) (by first | exact w_i64 (by omega) | exact w_i64 (rng_i64 _) | rfl) rfl ?_
    refine gy rfl ?_
    refine mv (v := .string _) rfl rfl ?_
    refine gy rfl ?_
    refine lnT rfl Try.underlying9 rfl ?_
    refine gy rfl ?_
    refine eql rfl rfl rfl ?_
    refine pkT (v := .bool _) rfl rfl rfl ?_
    refine nl ?_
    refine then_n ?_
    first | refine cd rfl (fun hc1 => ?_) (fun hc1 => ?_) | refine cn rfl (fun hc1 => ?_) (fun hc1 => ?_)   -- test 1
    · refine sq ?_
      refine rg ?_
      refine asg (v := .bool _) rfl rfl ?_
      refine asg (v := .bool _) rfl rfl ?_
      refine nl ?_
      refine then_n ?_
      refine rt ?_
      refine then_r ?_
      refine fin_r ?_
      exact ⟨rfl, H.fr⟩
    · refine sk ?_
      refine then_n ?_
      refine sq ?_
      refine rg ?_
      refine mv (v := .string _) rfl rfl ?_
      refine cvSB H rfl Try.underlying9 Try.underlying23 Try.underlying5 rfl ?_
      clear H; intro b1 cp1 w1 hb1 hcp1 H _
      refine cl ca40 (c_fromBytes _ _ _ _ _ (by first | exact RB.pre H | exact RB.all H | assumption) (by omega)) rfl ?_
      rintro _ w2 ⟨bm2, bb2, rfl, hbm, hbb, hne, h4, h5, F⟩
      replace H := H.new2 F hbm hbb hne h4 h5; clear F h4 h5
      refine mv (v := .int .i64 _) rfl rfl ?_
      refine cl ca41 (c_isSetErr _ _ _ _ _ (by first | assumption | omega) H.look H.look (by omega) _ (by omega) (by omega)) rfl ?_
      rintro _ w3 ⟨⟨p, rfl⟩, F⟩
      replace H := H.keep F; clear F
      refine mv (v := .tuple _) rfl rfl ?_
      refine xt rfl rfl rfl ?_
      refine xt rfl rfl rfl ?_
      refine asg (v := .bool _) rfl rfl ?_
      first | refine asg (v := .nilIface) rfl rfl ?_ | refine asg (v := .iface _ _) rfl rfl ?_ | refine asg rfl rfl ?_
      refine nl ?_
      refine then_n ?_
      refine sq ?_
      refine dr (by kernel_rfl) ?_   -- region 4
      have H := H.drew
      refine holdH H [] ?_
      refine tk (i := 0) rfl (by kernel_rfl) rfl H (fun w' H => r_mv (v := .bool _) rfl) ?_
      first | refine tk (i := 1) rfl (by kernel_rfl) rfl H (fun w' H => r_mv (v := .nilIface) rfl) ?_ | refine tk (i := 1) rfl (by kernel_rfl) rfl H (fun w' H => r_mv (v := .iface _ _) rfl) ?_ | refine tk (i := 1) rfl (by kernel_rfl) rfl H (fun w' H => r_mv rfl) ?_
      first | refine tk (i := 2) rfl (by kernel_rfl) rfl H (fun w' H => r_eqlI1 rfl Try.underlying72) ?_ | refine tk (i := 2) rfl (by kernel_rfl) rfl H (fun w' H => r_eqlI0 rfl Try.underlying72) ?_
      refine tk (i := 3) rfl (by kernel_rfl) rfl H (fun w' H => r_asg (v := .bool _) rfl) ?_
      refine tk (i := 4) rfl (by kernel_rfl) rfl H (fun w' H => r_asg (v := .bool _) rfl) ?_
      refine da (by kernel_rfl) ?_
      refine then_n ?_
      refine rt ?_
      refine fin_r ?_
      exact ⟨rfl, H.fr⟩
  · refine gn rfl rfl ?_
    refine gn rfl rfl ?_
    refine gn rfl rfl ?_
    refine gn rfl rfl ?_
    refine gn rfl rfl ?_
    refine pkF (v := .bool _) rfl rfl rfl ?_
    refine nl ?_
    refine then_n ?_
    refine cbF rfl rfl ?_
    refine sk ?_
    refine then_n ?_
    refine sq ?_
    refine rg ?_
    refine mv (v := .string _) rfl rfl ?_
    refine cvSB H rfl Try.underlying9 Try.underlying23 Try.underlying5 rfl ?_
    clear H; intro b3 cp3 w4 hb3 hcp3 H _
    refine cl ca40 (c_fromBytes _ _ _ _ _ (by first | exact RB.pre H | exact RB.all H | assumption) (by omega)) rfl ?_
    rintro _ w5 ⟨bm4, bb4, rfl, hbm, hbb, hne, h4, h5, F⟩
    replace H := H.new2 F hbm hbb hne h4 h5; clear F h4 h5
    refine mv (v := .int .i64 _) rfl rfl ?_
    refine cl ca41 (c_isSetErr _ _ _ _ _ (by first | assumption | omega) H.look H.look (by omega) _ (by omega) (by omega)) rfl ?_
    rintro _ w6 ⟨⟨p, rfl⟩, F⟩
    replace H := H.keep F; clear F
    refine mv (v := .tuple _) rfl rfl ?_
    refine xt rfl rfl rfl ?_
    refine xt rfl rfl rfl ?_
    refine asg (v := .bool _) rfl rfl ?_
    first | refine asg (v := .nilIface) rfl rfl ?_ | refine asg (v := .iface _ _) rfl rfl ?_ | refine asg rfl rfl ?_
    refine nl ?_
    refine then_n ?_
    refine sq ?_
    refine dr (by kernel_rfl) ?_   -- region 4
    have H := H.drew
    refine holdH H [] ?_
    refine tk (i := 0) rfl (by kernel_rfl) rfl H (fun w' H => r_mv (v := .bool _) rfl) ?_
    first | refine tk (i := 1) rfl (by kernel_rfl) rfl H (fun w' H => r_mv (v := .nilIface) rfl) ?_ | refine tk (i := 1) rfl (by kernel_rfl) rfl H (fun w' H => r_mv (v := .iface _ _) rfl) ?_ | refine tk (i := 1) rfl (by kernel_rfl) rfl H (fun w' H => r_mv rfl) ?_
    first | refine tk (i := 2) rfl (by kernel_rfl) rfl H (fun w' H => r_eqlI1 rfl Try.underlying72) ?_ | refine tk (i := 2) rfl (by kernel_rfl) rfl H (fun w' H => r_eqlI0 rfl Try.underlying72) ?_
    refine tk (i := 3) rfl (by kernel_rfl) rfl H (fun w' H => r_asg (v := .bool _) rfl) ?_
    refine tk (i := 4) rfl (by kernel_rfl) rfl H (fun w' H => r_asg (v := .bool _) rfl) ?_
    refine da (by kernel_rfl) ?_
    refine then_n ?_
    refine rt ?_
    refine fin_r ?_
    exact ⟨rfl, H.fr⟩

set_option maxRecDepth 100000 in
theorem c_FnBitIs1 (w : World) (bs : List UInt8) (k : Nat) (hk : k < (bs.take 100).length * 8) (hl : bs.length ≤ 9223372036854775807) : Calls Try.prog 6 #[.string (str bs), .int .i16 (k : Int)] w (Ret fun v w' => v = .bool true ∧ Fr [] w w') := by
  refine enter (fun ρ => ρ 4) Try.func6 rfl rfl rfl (res1 rfl) ?_
  have H := SH.nil w
  have hsz := size_str bs
  have hlt : (bs.take 100).length ≤ 100 := by simp; omega
  have hsz2 := size_str (bs.take 100)
  refine sq ?_
  refine rg ?_
  refine asg (v := .bool _) rfl rfl ?_
  refine nl ?_
  refine then_n ?_
  refine sq ?_
  refine sq ?_
  refine rg ?_
  refine mv (v := .string _) rfl rfl ?_
  refine lnT rfl Try.underlying9 rfl ?_
  refine gtr rfl rfl rfl ?_
  refine nl ?_
  refine then_n ?_
  first | refine cd rfl (fun hc1 => ?_) (fun hc1 => ?_) | refine cn rfl (fun hc1 => ?_) (fun hc1 => ?_)   -- test 1
  · refine sq ?_
    refine rg ?_
    refine asg (v := .bool _) rfl rfl ?_
    refine nl ?_
    refine then_n ?_
    refine rt ?_
    refine then_r ?_
    refine fin_r ?_
    exact ⟨rfl, H.fr⟩
  · refine sk ?_
    refine then_n ?_
    refine sq ?_
    refine rg ?_
    refine mv (v := .string _) rfl rfl ?_
    refine cl ca20 (c_someBits _ _ (by omega)) rfl ?_
    rintro _ w1 ⟨rfl, F⟩
    replace H := H.keep F; clear F
    refine mv (v := .int .i16 _) rfl rfl ?_
    refine cvi rfl rfl Try.underlying3 (by first | exact w_i64 (by omega) | exact w_i64 (rng_i64 _) | rfl) rfl ?_
    refine asg (v := .string _) rfl rfl ?_
    refine asg (v := .int .i64 _) rfl rfl ?_
    refine nl ?_
    refine then_n ?_
    refine sq ?_
    refine rg ?_
    refine mv (v := .string _) rfl rfl ?_
    refine mv (v := .int .i64 _) rfl rfl ?_
    refine cl ca21 (c_BitIs _ _ _ (by omega) (by omega)) rfl ?_
    rintro _ w2 ⟨rfl, F⟩
    replace H := H.keep F; clear F
    refine mv (v := .tuple _) rfl rfl ?_
    refine xt rfl rfl rfl ?_
    refine xt rfl rfl rfl ?_
    refine asg (v := .bool _) rfl rfl ?_
    refine asg (v := .bool _) rfl rfl ?_
    refine nl ?_
    refine then_n ?_
    refine sq ?_
    refine sq ?_
    refine rg ?_
    refine mv (v := .int .i64 _) rfl rfl ?_
    refine lss rfl rfl rfl ?_
    refine mv (v := .bool _) rfl rfl ?_
    first | refine spL (t := 26) (b := false) rfl ?_ | refine spF (t := 26) rfl (by omega) ?_   -- guard 1
    refine gy rfl ?_
    refine mv (v := .int .i64 _) rfl rfl ?_
    refine gy rfl ?_
    refine mv (v := .string _) rfl rfl ?_
    refine gy rfl ?_
    refine lnT rfl Try.underlying9 rfl ?_
    refine gy rfl ?_
    refine mul rfl rfl (by first | exact w_i64 (by omega) | exact w_i64 (rng_i64 _) | rfl) rfl ?_
    refine gy rfl ?_
    refine geq rfl rfl rfl ?_
    refine pkF (v := .bool _) rfl rfl rfl ?_
    refine nl ?_
    refine then_n ?_
    first | refine cF rfl (by omega) ?_ | refine cbF rfl (by omega) ?_   -- test 2
    refine sk ?_
    refine then_n ?_
    refine sq ?_
    refine rg ?_
    refine mv (v := .bool _) rfl rfl ?_
    refine mv (v := .bool _) rfl rfl ?_
    first | refine spL (t := 46) (b := true) rfl ?_ | refine spT (t := 46) rfl rfl ?_   -- guard 2
    refine gy rfl ?_
    refine mv (v := .bool _) rfl rfl ?_
    refine gy rfl ?_
    refine mv (v := .string _) rfl rfl ?_
    refine gy rfl ?_
    refine mv (v := .int .i64 _) rfl rfl ?_
    refine gy rfl ?_
    refine cl ca22 (c_bitAt _ _ _ (by omega) (by omega)) rfl ?_
    rintro _ w3 ⟨rfl, F⟩
    replace H := H.keep F; clear F
    refine gy rfl ?_
    refine eqlB rfl rfl Try.underlying4 rfl ?_
    refine pkT (v := .bool _) rfl rfl rfl ?_
    refine asg (v := .bool _) rfl rfl ?_
    refine nl ?_
    refine then_n ?_
    refine rt ?_
    refine fin_r ?_
    exact ⟨congrArg Value.bool (decide_eq_true rfl), H.fr⟩

set_option maxRecDepth 100000 in
theorem c_FnBitIs2 (w : World) (bs : List UInt8) (n : Int) (hn : n < 0 ∨ ((bs.take 100).length : Int) * 8 ≤ n) (hn2 : -32768 ≤ n ∧ n ≤ 32767) (hl : bs.length ≤ 9223372036854775807) : Calls Try.prog 6 #[.string (str bs), .int .i16 n] w (Ret fun v w' => v = .bool true ∧ Fr [] w w') := by
  refine enter (fun ρ => ρ 4) Try.func6 rfl rfl rfl (res1 rfl) ?_
  have H := SH.nil w
  have hsz := size_str bs
  have hlt : (bs.take 100).length ≤ 100 := by simp; omega
  have hsz2 := size_str (bs.take 100)
  refine sq ?_
  refine rg ?_
  refine asg (v := .bool _) rfl rfl ?_
  refine nl ?_
  refine then_n ?_
  refine sq ?_
  refine sq ?_
  refine rg ?_
  refine mv (v := .string _) rfl rfl ?_
  refine lnT rfl Try.underlying9 rfl ?_
  refine gtr rfl rfl rfl ?_
  refine nl ?_
  refine then_n ?_
  first | refine cd rfl (fun hc1 => ?_) (fun hc1 => ?_) | refine cn rfl (fun hc1 => ?_) (fun hc1 => ?_)   -- test 1
  · refine sq ?_
    refine rg ?_
    refine asg (v := .bool _) rfl rfl ?_
    refine nl ?_
    refine then_n ?_
    refine rt ?_
    refine then_r ?_
    refine fin_r ?_
    exact ⟨rfl, H.fr⟩
  · refine sk ?_
    refine then_n ?_
    refine sq ?_
    refine rg ?_
    refine mv (v := .string _) rfl rfl ?_
    refine cl ca20 (c_someBits _ _ (by omega)) rfl ?_
    rintro _ w1 ⟨rfl, F⟩
    replace H := H.keep F; clear F
    refine mv (v := .int .i16 _) rfl rfl ?_
    refine cvi rfl rfl Try.underlying3 (by first | exact w_i64 (by omega) | exact w_i64 (rng_i64 _) | rfl) rfl ?_
    refine asg (v := .string _) rfl rfl ?_
    refine asg (v := .int .i64 _) rfl rfl ?_
    refine nl ?_
    refine then_n ?_
    refine sq ?_
    refine rg ?_
    refine mv (v := .string _) rfl rfl ?_
    refine mv (v := .int .i64 _) rfl rfl ?_
    refine cl ca21 (c_BitIsErr _ _ _ (by omega) (by omega) (by omega)) rfl ?_
    rintro _ w2 ⟨rfl, F⟩
    replace H := H.keep F; clear F
    refine mv (v := .tuple _) rfl rfl ?_
    refine xt rfl rfl rfl ?_
    refine xt rfl rfl rfl ?_
    refine asg (v := .bool _) rfl rfl ?_
    refine asg (v := .bool _) rfl rfl ?_
    refine nl ?_
    refine then_n ?_
    refine sq ?_
    refine sq ?_
    refine rg ?_
    refine mv (v := .int .i64 _) rfl rfl ?_
    refine lss rfl rfl rfl ?_
    refine mv (v := .bool _) rfl rfl ?_
    first | refine spd (t := 26) rfl (fun hg1 => ?_) (fun hg1 => ?_) | refine sp (t := 26) rfl (fun hg1 => ?_) (fun hg1 => ?_)   -- guard 1
    · refine gn rfl rfl ?_
      refine gn rfl rfl ?_
      refine gn rfl rfl ?_
      refine gn rfl rfl ?_
      refine gn rfl rfl ?_
      refine pkT (v := .bool _) rfl rfl rfl ?_
      refine nl ?_
      refine then_n ?_
      refine cbT rfl rfl ?_
      refine sq ?_
      refine rg ?_
      refine cl ca21 (c_BitIs _ [2] 1 (by decide) (by decide)) rfl ?_
      rintro _ w3 ⟨rfl, F⟩
      replace H := H.keep F; clear F
      refine mv (v := .tuple _) rfl rfl ?_
      refine xt rfl rfl rfl ?_
      refine xt rfl rfl rfl ?_
      refine asg (v := .bool _) rfl rfl ?_
      refine asg (v := .bool _) rfl rfl ?_
      refine nl ?_
      refine then_n ?_
      refine sq ?_
      refine rg ?_
      refine mv (v := .bool _) rfl rfl ?_
      refine unot rfl rfl ?_
      refine mv (v := .bool _) rfl rfl ?_
      first | refine spL (t := 39) (b := true) rfl ?_ | refine spT (t := 39) rfl rfl ?_   -- guard 2
      refine gy rfl ?_
      refine mv (v := .bool _) rfl rfl ?_
      refine pkT (v := .bool _) rfl rfl rfl ?_
      refine mv (v := .bool _) rfl rfl ?_
      first | refine spL (t := 42) (b := true) rfl ?_ | refine spT (t := 42) rfl rfl ?_   -- guard 3
      refine gy rfl ?_
      refine mv (v := .bool _) rfl rfl ?_
      refine pkT (v := .bool _) rfl rfl rfl ?_
      refine asg (v := .bool _) rfl rfl ?_
      refine nl ?_
      refine then_n ?_
      refine rt ?_
      refine then_r ?_
      refine fin_r ?_
      exact ⟨rfl, H.fr⟩
    · refine gy rfl ?_
      refine mv (v := .int .i64 _) rfl rfl ?_
      refine gy rfl ?_
      refine mv (v := .string _) rfl rfl ?_
      refine gy rfl ?_
      refine lnT rfl Try.underlying9 rfl ?_
      refine gy rfl ?_
      refine mul rfl rfl (by first | exact w_i64 (by omega) | exact w_i64 (rng_i64 _) | rfl) rfl ?_
      refine gy rfl ?_
      refine geq rfl rfl rfl ?_
      refine pkF (v := .bool _) rfl rfl rfl ?_
      refine nl ?_
      refine then_n ?_
      first | refine cT rfl (by omega) ?_ | refine cbT rfl (by omega) ?_   -- test 2
      refine sq ?_
      refine rg ?_
      refine cl ca21 (c_BitIs _ [2] 1 (by decide) (by decide)) rfl ?_
      rintro _ w4 ⟨rfl, F⟩
      replace H := H.keep F; clear F
      refine mv (v := .tuple _) rfl rfl ?_
      refine xt rfl rfl rfl ?_
      refine xt rfl rfl rfl ?_
      refine asg (v := .bool _) rfl rfl ?_
      refine asg (v := .bool _) rfl rfl ?_
      refine nl ?_
      refine then_n ?_
      refine sq ?_
      refine rg ?_
      refine mv (v := .bool _) rfl rfl ?_
      refine unot rfl rfl ?_
      refine mv (v := .bool _) rfl rfl ?_
      first | refine spL (t := 39) (b := true) rfl ?_ | refine spT (t := 39) rfl rfl ?_   -- guard 4
      refine gy rfl ?_
      refine mv (v := .bool _) rfl rfl ?_
      refine pkT (v := .bool _) rfl rfl rfl ?_
      refine mv (v := .bool _) rfl rfl ?_
      first | refine spL (t := 42) (b := true) rfl ?_ | refine spT (t := 42) rfl rfl ?_   -- guard 5
      refine gy rfl ?_
      refine mv (v := .bool _) rfl rfl ?_
      refine pkT (v := .bool _) rfl rfl rfl ?_
      refine asg (v := .bool _) rfl rfl ?_
      refine nl ?_
      refine then_n ?_
      refine rt ?_
      refine then_r ?_
      refine fin_r ?_
      exact ⟨rfl, H.fr⟩

theorem c_FnBitIs (w : World) (bs : List UInt8) (n : Int) (hn2 : -32768 ≤ n ∧ n ≤ 32767) (hl : bs.length ≤ 9223372036854775807) : Calls Try.prog 6 #[.string (str bs), .int .i16 n] w (Ret fun v w' => v = .bool true ∧ Fr [] w w') := by
  by_cases h : n < 0 ∨ ((bs.take 100).length : Int) * 8 ≤ n
  · exact c_FnBitIs2 w bs n h hn2 hl
  · obtain ⟨k, rfl⟩ := Int.eq_ofNat_of_zero_le (show 0 ≤ n by omega)
    exact c_FnBitIs1 w bs k (by omega) hl

set_option maxRecDepth 100000 in
theorem c_BitPut (w : World) (bs : List UInt8) (k : Nat) (c : Bool) (hk : k < bs.length * 8) (hl : bs.length ≤ 1000000000) : Calls Try.prog 27 #[.string (str bs), .int .i64 (k : Int), .bool c] w (Ret fun v w' => v = .tuple #[.string (str (bitWith bs k c)), .bool true] ∧ Fr [] w w') := by
  refine enter (fun ρ => .tuple #[ρ 6, ρ 7]) Try.func27 rfl rfl rfl (res2 rfl) ?_
  have H := SH.nil w
  have hsz := size_str bs
  refine sq ?_
  refine rg ?_
  refine asg (v := .string _) rfl rfl ?_
  refine asg (v := .bool _) rfl rfl ?_
  refine nl ?_
  refine then_n ?_
  refine sq ?_
  refine rg ?_
  refine mv (v := .string _) rfl rfl ?_
  refine cvSB H rfl Try.underlying9 Try.underlying23 Try.underlying5 rfl ?_
  clear H; intro b1 cp1 w1 hb1 hcp1 H _
  refine cl ca40 (c_fromBytes _ _ _ _ _ (by first | exact RB.pre H | exact RB.all H | assumption) (by omega)) rfl ?_
  rintro _ w2 ⟨bm2, bb2, rfl, hbm, hbb, hne, h4, h5, F⟩
  replace H := H.new2 F hbm hbb hne h4 h5; clear F h4 h5
  refine asg (v := .pointer _) rfl rfl ?_
  refine nl ?_
  refine then_n ?_
  refine sq ?_
  refine rg ?_
  refine mv (v := .pointer _) rfl rfl ?_
  refine mv (v := .int .i64 _) rfl rfl ?_
  refine cl ca44 (c_bitSet _ _ _ _ _ (by first | assumption | omega) H.look H.look (by omega) (by assumption) _ (by omega)) rfl ?_
  rintro _ w3 ⟨rfl, hnew, F⟩
  replace H := H.put F hnew; clear F hnew
  first | refine asg (v := .nilIface) rfl rfl ?_ | refine asg (v := .iface _ _) rfl rfl ?_ | refine asg rfl rfl ?_
  refine nl ?_
  refine then_n ?_
  refine sq ?_
  refine sq ?_
  refine rg ?_
  refine mv (v := .bool _) rfl rfl ?_
  refine nl ?_
  refine then_n ?_
  first | refine cd rfl (fun hc1 => ?_) (fun hc1 => ?_) | refine cn rfl (fun hc1 => ?_) (fun hc1 => ?_)   -- test 1
  · refine sq ?_
    refine rg ?_
    refine mv (v := .string _) rfl rfl ?_
    refine cvSB H rfl Try.underlying9 Try.underlying23 Try.underlying5 rfl ?_
    clear H; intro b3 cp3 w4 hb3 hcp3 H _
    refine cl ca40 (c_fromBytes _ _ _ _ _ (by first | exact RB.pre H | exact RB.all H | assumption) (by omega)) rfl ?_
    rintro _ w5 ⟨bm4, bb4, rfl, hbm, hbb, hne, h4, h5, F⟩
    replace H := H.new2 F hbm hbb hne h4 h5; clear F h4 h5
    refine asg (v := .pointer _) rfl rfl ?_
    refine nl ?_
    refine then_n ?_
    refine rg ?_
    refine mv (v := .pointer _) rfl rfl ?_
    refine mv (v := .int .i64 _) rfl rfl ?_
    refine cl ca45 (c_bitClear _ _ _ _ _ (by first | assumption | omega) H.look H.look (by omega) (by assumption) _ (by omega)) rfl ?_
    rintro _ w6 ⟨rfl, hnew, F⟩
    replace H := H.put F hnew; clear F hnew
    first | refine asg (v := .nilIface) rfl rfl ?_ | refine asg (v := .iface _ _) rfl rfl ?_ | refine asg rfl rfl ?_
    refine nl ?_
    refine then_n ?_
    refine sq ?_
    refine dr (by kernel_rfl) ?_   -- region 6
    have H := H.drew
    refine holdH H [] ?_
    refine tk (i := 0) rfl (by kernel_rfl) rfl H (fun w' H => r_mv (v := .pointer _) rfl) ?_
    first | refine tk (i := 3) rfl (by kernel_rfl) rfl H (fun w' H => r_mv (v := .nilIface) rfl) ?_ | refine tk (i := 3) rfl (by kernel_rfl) rfl H (fun w' H => r_mv (v := .iface _ _) rfl) ?_ | refine tk (i := 3) rfl (by kernel_rfl) rfl H (fun w' H => r_mv rfl) ?_
    first | refine tk (i := 4) rfl (by kernel_rfl) rfl H (fun w' H => r_eqlI1 rfl Try.underlying72) ?_ | refine tk (i := 4) rfl (by kernel_rfl) rfl H (fun w' H => r_eqlI0 rfl Try.underlying72) ?_
    refine fk (i := 1) (by kernel_rfl) rfl rfl rfl ?_
    refine cl ca39 (c_toBytes _ _ _ bs.length _ (by simp [bitWith]) H.look H.look (by omega)) rfl ?_
    rintro _ w7 ⟨b5, rfl, hge, hnew, F⟩
    replace H := H.new F hge hnew; clear F hnew
    refine nl ?_
    refine then_n ?_
    refine ⟨H.drop, ?_⟩
    refine upH H ?_ (fun _ h => h.drop)
    refine tk (i := 2) rfl (by kernel_rfl) rfl H (fun w' H => r_cvBS rfl (by exact RB.allm H (by simp [bitWith])) Try.underlying23 Try.underlying5 Try.underlying9) ?_
    refine tk (i := 5) rfl (by kernel_rfl) rfl H (fun w' H => r_asg (v := .string _) rfl) ?_
    refine tk (i := 6) rfl (by kernel_rfl) rfl H (fun w' H => r_asg (v := .bool _) rfl) ?_
    refine da (by kernel_rfl) ?_
    refine then_n ?_
    refine rt ?_
    refine fin_r ?_
    subst hc1
    exact ⟨rfl, H.fr⟩
  · refine sk ?_
    refine then_n ?_
    refine sq ?_
    refine dr (by kernel_rfl) ?_   -- region 6
    have H := H.drew
    refine holdH H [] ?_
    refine tk (i := 0) rfl (by kernel_rfl) rfl H (fun w' H => r_mv (v := .pointer _) rfl) ?_
    first | refine tk (i := 3) rfl (by kernel_rfl) rfl H (fun w' H => r_mv (v := .nilIface) rfl) ?_ | refine tk (i := 3) rfl (by kernel_rfl) rfl H (fun w' H => r_mv (v := .iface _ _) rfl) ?_ | refine tk (i := 3) rfl (by kernel_rfl) rfl H (fun w' H => r_mv rfl) ?_
    first | refine tk (i := 4) rfl (by kernel_rfl) rfl H (fun w' H => r_eqlI1 rfl Try.underlying72) ?_ | refine tk (i := 4) rfl (by kernel_rfl) rfl H (fun w' H => r_eqlI0 rfl Try.underlying72) ?_
    refine fk (i := 1) (by kernel_rfl) rfl rfl rfl ?_
    refine cl ca39 (c_toBytes _ _ _ bs.length _ (by simp [bitWith]) H.look H.look (by omega)) rfl ?_
    rintro _ w8 ⟨b6, rfl, hge, hnew, F⟩
    replace H := H.new F hge hnew; clear F hnew
    refine nl ?_
    refine then_n ?_
    refine ⟨H.drop, ?_⟩
    refine upH H ?_ (fun _ h => h.drop)
    refine tk (i := 2) rfl (by kernel_rfl) rfl H (fun w' H => r_cvBS rfl (by exact RB.allm H (by simp [bitWith])) Try.underlying23 Try.underlying5 Try.underlying9) ?_
    refine tk (i := 5) rfl (by kernel_rfl) rfl H (fun w' H => r_asg (v := .string _) rfl) ?_
    refine tk (i := 6) rfl (by kernel_rfl) rfl H (fun w' H => r_asg (v := .bool _) rfl) ?_
    refine da (by kernel_rfl) ?_
    refine then_n ?_
    refine rt ?_
    refine fin_r ?_
    subst hc1
    exact ⟨rfl, H.fr⟩

set_option maxRecDepth 100000 in
theorem c_BitPutErr (w : World) (bs : List UInt8) (n : Int) (c : Bool) (hn : n < 0 ∨ (bs.length : Int) * 8 ≤ n) (hn2 : n ≤ 9223372036854775807) (hl : bs.length ≤ 1000000000) : Calls Try.prog 27 #[.string (str bs), .int .i64 n, .bool c] w (Ret fun v w' => (∃ s, v = .tuple #[.string s, .bool false]) ∧ Fr [] w w') := by
  refine enter (fun ρ => .tuple #[ρ 6, ρ 7]) Try.func27 rfl rfl rfl (res2 rfl) ?_
  have H := SH.nil w
  have hsz := size_str bs
  refine sq ?_
  refine rg ?_
  refine asg (v := .string _) rfl rfl ?_
  refine asg (v := .bool _) rfl rfl ?_
  refine nl ?_
  refine then_n ?_
  refine sq ?_
  refine rg ?_
  refine mv (v := .string _) rfl rfl ?_
  refine cvSB H rfl Try.underlying9 Try.underlying23 Try.underlying5 rfl ?_
  clear H; intro b1 cp1 w1 hb1 hcp1 H _
  refine cl ca40 (c_fromBytes _ _ _ _ _ (by first | exact RB.pre H | exact RB.all H | assumption) (by omega)) rfl ?_
  rintro _ w2 ⟨bm2, bb2, rfl, hbm, hbb, hne, h4, h5, F⟩
  replace H := H.new2 F hbm hbb hne h4 h5; clear F h4 h5
  refine asg (v := .pointer _) rfl rfl ?_
  refine nl ?_
  refine then_n ?_
  refine sq ?_
  refine rg ?_
  refine mv (v := .pointer _) rfl rfl ?_
  refine mv (v := .int .i64 _) rfl rfl ?_
  refine cl ca44 (c_bitSetErr _ _ _ _ _ (by first | assumption | omega) H.look H.look (by omega) _ (by omega) (by omega)) rfl ?_
  rintro _ w3 ⟨⟨p, rfl⟩, F⟩
  replace H := H.keep F; clear F
  first | refine asg (v := .nilIface) rfl rfl ?_ | refine asg (v := .iface _ _) rfl rfl ?_ | refine asg rfl rfl ?_
  refine nl ?_
  refine then_n ?_
  refine sq ?_
  refine sq ?_
  refine rg ?_
  refine mv (v := .bool _) rfl rfl ?_
  refine nl ?_
  refine then_n ?_
  first | refine cd rfl (fun hc1 => ?_) (fun hc1 => ?_) | refine cn rfl (fun hc1 => ?_) (fun hc1 => ?_)   -- test 1
  · refine sq ?_
    refine rg ?_
    refine mv (v := .string _) rfl rfl ?_
    refine cvSB H rfl Try.underlying9 Try.underlying23 Try.underlying5 rfl ?_
    clear H; intro b3 cp3 w4 hb3 hcp3 H _
    refine cl ca40 (c_fromBytes _ _ _ _ _ (by first | exact RB.pre H | exact RB.all H | assumption) (by omega)) rfl ?_
    rintro _ w5 ⟨bm4, bb4, rfl, hbm, hbb, hne, h4, h5, F⟩
    replace H := H.new2 F hbm hbb hne h4 h5; clear F h4 h5
    refine asg (v := .pointer _) rfl rfl ?_
    refine nl ?_
    refine then_n ?_
    refine rg ?_
    refine mv (v := .pointer _) rfl rfl ?_
    refine mv (v := .int .i64 _) rfl rfl ?_
    refine cl ca45 (c_bitClearErr _ _ _ _ _ (by first | assumption | omega) H.look H.look (by omega) _ (by omega) (by omega)) rfl ?_
    rintro _ w6 ⟨⟨p, rfl⟩, F⟩
    replace H := H.keep F; clear F
    first | refine asg (v := .nilIface) rfl rfl ?_ | refine asg (v := .iface _ _) rfl rfl ?_ | refine asg rfl rfl ?_
    refine nl ?_
    refine then_n ?_
    refine sq ?_
    refine dr (by kernel_rfl) ?_   -- region 6
    have H := H.drew
    refine holdH H [] ?_
    refine tk (i := 0) rfl (by kernel_rfl) rfl H (fun w' H => r_mv (v := .pointer _) rfl) ?_
    first | refine tk (i := 3) rfl (by kernel_rfl) rfl H (fun w' H => r_mv (v := .nilIface) rfl) ?_ | refine tk (i := 3) rfl (by kernel_rfl) rfl H (fun w' H => r_mv (v := .iface _ _) rfl) ?_ | refine tk (i := 3) rfl (by kernel_rfl) rfl H (fun w' H => r_mv rfl) ?_
    first | refine tk (i := 4) rfl (by kernel_rfl) rfl H (fun w' H => r_eqlI1 rfl Try.underlying72) ?_ | refine tk (i := 4) rfl (by kernel_rfl) rfl H (fun w' H => r_eqlI0 rfl Try.underlying72) ?_
    refine fk (i := 1) (by kernel_rfl) rfl rfl rfl ?_
    refine cl ca39 (c_toBytes _ _ _ _ _ (by first | assumption | (simp; done) | omega) H.look H.look (by first | omega | (simp; omega))) rfl ?_
    rintro _ w7 ⟨b5, rfl, hge, hnew, F⟩
    replace H := H.new F hge hnew; clear F hnew
    refine nl ?_
    refine then_n ?_
    refine ⟨H.drop, ?_⟩
    refine upH H ?_ (fun _ h => h.drop)
    refine tk (i := 2) rfl (by kernel_rfl) rfl H (fun w' H => r_cvBS rfl (by exact RB.allm H rfl) Try.underlying23 Try.underlying5 Try.underlying9) ?_
    refine tk (i := 5) rfl (by kernel_rfl) rfl H (fun w' H => r_asg (v := .string _) rfl) ?_
    refine tk (i := 6) rfl (by kernel_rfl) rfl H (fun w' H => r_asg (v := .bool _) rfl) ?_
    refine da (by kernel_rfl) ?_
    refine then_n ?_
    refine rt ?_
    refine fin_r ?_
    exact ⟨⟨_, rfl⟩, H.fr⟩
  · refine sk ?_
    refine then_n ?_
    refine sq ?_
    refine dr (by kernel_rfl) ?_   -- region 6
    have H := H.drew
    refine holdH H [] ?_
    refine tk (i := 0) rfl (by kernel_rfl) rfl H (fun w' H => r_mv (v := .pointer _) rfl) ?_
    first | refine tk (i := 3) rfl (by kernel_rfl) rfl H (fun w' H => r_mv (v := .nilIface) rfl) ?_ | refine tk (i := 3) rfl (by kernel_rfl) rfl H (fun w' H => r_mv (v := .iface _ _) rfl) ?_ | refine tk (i := 3) rfl (by kernel_rfl) rfl H (fun w' H => r_mv rfl) ?_
    first | refine tk (i := 4) rfl (by kernel_rfl) rfl H (fun w' H => r_eqlI1 rfl Try.underlying72) ?_ | refine tk (i := 4) rfl (by kernel_rfl) rfl H (fun w' H => r_eqlI0 rfl Try.underlying72) ?_
    refine fk (i := 1) (by kernel_rfl) rfl rfl rfl ?_
    refine cl ca39 (c_toBytes _ _ _ _ _ (by first | assumption | (simp; done) | omega) H.look H.look (by first | omega | (simp; omega))) rfl ?_
    rintro _ w8 ⟨b6, rfl, hge, hnew, F⟩
    replace H := H.new F hge hnew; clear F hnew
    refine nl ?_
    refine then_n ?_
    refine ⟨H.drop, ?_⟩
    refine upH H ?_ (fun _ h => h.drop)
    refine tk (i := 2) rfl (by kernel_rfl) rfl H (fun w' H => r_cvBS rfl (by exact RB.allm H rfl) Try.underlying23 Try.underlying5 Try.underlying9) ?_
    refine tk (i := 5) rfl (by kernel_rfl) rfl H (fun w' H => r_asg (v := .string _) rfl) ?_
    refine tk (i := 6) rfl (by kernel_rfl) rfl H (fun w' H => r_asg (v := .bool _) rfl) ?_
    refine da (by kernel_rfl) ?_
    refine then_n ?_
    refine rt ?_
    refine fin_r ?_
    exact ⟨⟨_, rfl⟩, H.fr⟩

set_option maxRecDepth 100000 in
theorem c_bitWith (w : World) (bs : List UInt8) (k : Nat) (c : Bool) (hk : k < bs.length * 8) (hl : bs.length ≤ 1000000000) : Calls Try.prog 28 #[.string (str bs), .int .i64 (k : Int), .bool c] w (Ret fun v w' => v = .string (str (bitWith bs k c)) ∧ Fr [] w w') := by
  refine enter (fun ρ => ρ 6) Try.func28 rfl rfl rfl (res1 rfl) ?_
  have H := SH.nil w
  have hsz := size_str bs
  have hgd : ∀ r : List UInt8, (bs ++ r).getD (k / 8) 0 = bs.getD (k / 8) 0 := fun r => by simp [List.getD_eq_getElem?_getD, List.getElem?_append, show k / 8 < bs.length by omega]
  refine sq ?_
  refine rg ?_
  refine asg (v := .string _) rfl rfl ?_
  refine nl ?_
  refine then_n ?_
  refine sq ?_
  refine rg ?_
  refine mv (v := .string _) rfl rfl ?_
  refine cvSB H rfl Try.underlying9 Try.underlying23 Try.underlying5 rfl ?_
  clear H; intro b1 cp1 w1 hb1 hcp1 H _
  refine asg (v := .slice _ _ _) rfl rfl ?_
  refine nl ?_
  refine then_n ?_
  refine sq ?_
  refine sq ?_
  refine rg ?_
  refine mv (v := .bool _) rfl rfl ?_
  refine nl ?_
  refine then_n ?_
  first | refine cd rfl (fun hc1 => ?_) (fun hc1 => ?_) | refine cn rfl (fun hc1 => ?_) (fun hc1 => ?_)   -- test 1
  · refine dr (by kernel_rfl) ?_   -- region 3
    have H := H.drew
    refine holdH H [10] ?_
    refine tk (i := 0) rfl (by kernel_rfl) rfl H (fun w' H => r_mv (v := .slice _ _ _) rfl) ?_
    refine tk (i := 1) rfl (by kernel_rfl) rfl H (fun w' H => r_mv (v := .int .i64 _) rfl) ?_
    refine tk (i := 2) rfl (by kernel_rfl) rfl H (fun w' H => r_quo rfl rfl (by omega) (by omega) (by first | exact w_i64 (by omega) | exact w_i64 (rng_i64 _) | rfl)) ?_
    refine tk (i := 3) rfl (by kernel_rfl) rfl H (fun w' H => r_ia rfl rfl Try.underlying23 szu8 (by omega)) ?_
    refine tk (i := 4) rfl (by kernel_rfl) rfl H (fun w' H => r_ldb H rfl sc5 (by simp; omega)) ?_
    refine tk (i := 5) rfl (by kernel_rfl) rfl H (fun w' H => r_mv (v := .int .i64 _) rfl) ?_
    refine tk (i := 6) rfl (by kernel_rfl) rfl H (fun w' H => r_rem rfl rfl (by omega) (by omega) rfl) ?_
    refine tk (i := 7) rfl (by kernel_rfl) rfl H (fun w' H => r_shl (c := mask8 (k % 8)) rfl rfl (by omega) (mask8_eq k)) ?_
    refine tk (i := 8) rfl (by kernel_rfl) rfl H (fun w' H => r_bandnot rfl rfl rfl) ?_
    first | refine tk (i := 9) rfl (by kernel_rfl) rfl H (fun w' H => r_ia rfl rfl Try.underlying23 sz5_1 (by omega)) ?_ | refine tk (i := 9) rfl (by kernel_rfl) rfl H (fun w' H => r_iA rfl rfl Try.underlying23 sz5_1 (by omega)) ?_
    refine fb (i := 10) (by kernel_rfl) rfl rfl rfl ?_
    refine stb H rfl rfl sc5 (andnot_rng _ _ (by omega)) (by simp; omega) (by omega) ?_
    clear H; intro w90 H _
    refine nl ?_
    refine then_n ?_
    refine dn (by kernel_rfl) ?_
    refine then_n ?_
    refine sq ?_
    refine rg ?_
    refine mv (v := .slice _ _ _) rfl rfl ?_
    refine cvBS rfl (by exact RB.preSet H (by omega)) Try.underlying23 Try.underlying5 Try.underlying9 rfl ?_
    refine asg (v := .string _) rfl rfl ?_
    refine nl ?_
    refine then_n ?_
    refine rt ?_
    refine fin_r ?_
    subst hc1
    refine ⟨?_, H.fr⟩
    rw [ix8, hgd]
    rfl
  · refine dr (by kernel_rfl) ?_   -- region 4
    have H := H.drew
    refine holdH H [10] ?_
    refine tk (i := 0) rfl (by kernel_rfl) rfl H (fun w' H => r_mv (v := .slice _ _ _) rfl) ?_
    refine tk (i := 1) rfl (by kernel_rfl) rfl H (fun w' H => r_mv (v := .int .i64 _) rfl) ?_
    refine tk (i := 2) rfl (by kernel_rfl) rfl H (fun w' H => r_quo rfl rfl (by omega) (by omega) (by first | exact w_i64 (by omega) | exact w_i64 (rng_i64 _) | rfl)) ?_
    refine tk (i := 3) rfl (by kernel_rfl) rfl H (fun w' H => r_ia rfl rfl Try.underlying23 szu8 (by omega)) ?_
    refine tk (i := 4) rfl (by kernel_rfl) rfl H (fun w' H => r_ldb H rfl sc5 (by simp; omega)) ?_
    refine tk (i := 5) rfl (by kernel_rfl) rfl H (fun w' H => r_mv (v := .int .i64 _) rfl) ?_
    refine tk (i := 6) rfl (by kernel_rfl) rfl H (fun w' H => r_rem rfl rfl (by omega) (by omega) rfl) ?_
    refine tk (i := 7) rfl (by kernel_rfl) rfl H (fun w' H => r_shl (c := mask8 (k % 8)) rfl rfl (by omega) (mask8_eq k)) ?_
    refine tk (i := 8) rfl (by kernel_rfl) rfl H (fun w' H => r_bor rfl rfl rfl) ?_
    first | refine tk (i := 9) rfl (by kernel_rfl) rfl H (fun w' H => r_ia rfl rfl Try.underlying23 sz5_1 (by omega)) ?_ | refine tk (i := 9) rfl (by kernel_rfl) rfl H (fun w' H => r_iA rfl rfl Try.underlying23 sz5_1 (by omega)) ?_
    refine fb (i := 10) (by kernel_rfl) rfl rfl rfl ?_
    refine stb H rfl rfl sc5 (or_rng _ _ (by omega)) (by simp; omega) (by omega) ?_
    clear H; intro w90 H _
    refine nl ?_
    refine then_n ?_
    refine dn (by kernel_rfl) ?_
    refine then_n ?_
    refine sq ?_
    refine rg ?_
    refine mv (v := .slice _ _ _) rfl rfl ?_
    refine cvBS rfl (by exact RB.preSet H (by omega)) Try.underlying23 Try.underlying5 Try.underlying9 rfl ?_
    refine asg (v := .string _) rfl rfl ?_
    refine nl ?_
    refine then_n ?_
    refine rt ?_
    refine fin_r ?_
    subst hc1
    refine ⟨?_, H.fr⟩
    rw [ix8, hgd]
    rfl

set_option maxRecDepth 100000 in
theorem c_FnBitPut1 (w : World) (bs : List UInt8) (k : Nat) (c : Bool) (hk : k < (bs.take 100).length * 8) (hl : bs.length ≤ 9223372036854775807) : Calls Try.prog 9 #[.string (str bs), .int .i16 (k : Int), .bool c] w (Ret fun v w' => v = .bool true ∧ Fr [] w w') := by
  refine enter (fun ρ => ρ 6) Try.func9 rfl rfl rfl (res1 rfl) ?_
  have H := SH.nil w
  have hsz := size_str bs
  have hlt : (bs.take 100).length ≤ 100 := by simp; omega
  have hsz2 := size_str (bs.take 100)
  refine sq ?_
  refine rg ?_
  refine asg (v := .bool _) rfl rfl ?_
  refine nl ?_
  refine then_n ?_
  refine sq ?_
  refine sq ?_
  refine rg ?_
  refine mv (v := .string _) rfl rfl ?_
  refine lnT rfl Try.underlying9 rfl ?_
  refine gtr rfl rfl rfl ?_
  refine nl ?_
  refine then_n ?_
  first | refine cd rfl (fun hc1 => ?_) (fun hc1 => ?_) | refine cn rfl (fun hc1 => ?_) (fun hc1 => ?_)   -- test 1
  · refine sq ?_
    refine rg ?_
    refine asg (v := .bool _) rfl rfl ?_
    refine nl ?_
    refine then_n ?_
    refine rt ?_
    refine then_r ?_
    refine fin_r ?_
    exact ⟨rfl, H.fr⟩
  · refine sk ?_
    refine then_n ?_
    refine sq ?_
    refine rg ?_
    refine mv (v := .string _) rfl rfl ?_
    refine cl ca20 (c_someBits _ _ (by omega)) rfl ?_
    rintro _ w1 ⟨rfl, F⟩
    replace H := H.keep F; clear F
    refine mv (v := .int .i16 _) rfl rfl ?_
    refine cvi rfl rfl Try.underlying3 (by first | exact w_i64 (by omega) | exact w_i64 (rng_i64 _) | rfl) rfl ?_
    refine asg (v := .string _) rfl rfl ?_
    refine asg (v := .int .i64 _) rfl rfl ?_
    refine nl ?_
    refine then_n ?_
    refine sq ?_
    refine rg ?_
    refine mv (v := .string _) rfl rfl ?_
    refine mv (v := .int .i64 _) rfl rfl ?_
    refine mv (v := .bool _) rfl rfl ?_
    refine cl ca27 (c_BitPut _ _ _ _ (by omega) (by omega)) rfl ?_
    rintro _ w2 ⟨rfl, F⟩
    replace H := H.keep F; clear F
    refine mv (v := .tuple _) rfl rfl ?_
    refine xt rfl rfl rfl ?_
    refine xt rfl rfl rfl ?_
    refine asg (v := .string _) rfl rfl ?_
    refine asg (v := .bool _) rfl rfl ?_
    refine nl ?_
    refine then_n ?_
    refine sq ?_
    refine sq ?_
    refine rg ?_
    refine mv (v := .int .i64 _) rfl rfl ?_
    refine lss rfl rfl rfl ?_
    refine mv (v := .bool _) rfl rfl ?_
    first | refine spL (t := 29) (b := false) rfl ?_ | refine spF (t := 29) rfl (by omega) ?_   -- guard 1
    refine gy rfl ?_
    refine mv (v := .int .i64 _) rfl rfl ?_
    refine gy rfl ?_
    refine mv (v := .string _) rfl rfl ?_
    refine gy rfl ?_
    refine lnT rfl Try.underlying9 rfl ?_
    refine gy rfl ?_
    refine mul rfl rfl (by first | exact w_i64 (by omega) | exact w_i64 (rng_i64 _) | rfl) rfl ?_
    refine gy rfl ?_
    refine geq rfl rfl rfl ?_
    refine pkF (v := .bool _) rfl rfl rfl ?_
    refine nl ?_
    refine then_n ?_
    first | refine cF rfl (by omega) ?_ | refine cbF rfl (by omega) ?_   -- test 2
    refine sk ?_
    refine then_n ?_
    refine sq ?_
    refine rg ?_
    refine mv (v := .bool _) rfl rfl ?_
    refine mv (v := .bool _) rfl rfl ?_
    first | refine spL (t := 50) (b := true) rfl ?_ | refine spT (t := 50) rfl rfl ?_   -- guard 2
    refine gy rfl ?_
    refine mv (v := .string _) rfl rfl ?_
    refine gy rfl ?_
    refine mv (v := .string _) rfl rfl ?_
    refine gy rfl ?_
    refine mv (v := .int .i64 _) rfl rfl ?_
    refine gy rfl ?_
    refine mv (v := .bool _) rfl rfl ?_
    refine gy rfl ?_
    refine cl ca28 (c_bitWith _ _ _ _ (by omega) (by omega)) rfl ?_
    rintro _ w3 ⟨rfl, F⟩
    replace H := H.keep F; clear F
    refine gy rfl ?_
    refine eqlT rfl rfl rfl ?_
    refine pkT (v := .bool _) rfl rfl rfl ?_
    refine asg (v := .bool _) rfl rfl ?_
    refine nl ?_
    refine then_n ?_
    refine rt ?_
    refine fin_r ?_
    exact ⟨congrArg Value.bool (decide_eq_true rfl), H.fr⟩

set_option maxRecDepth 100000 in
theorem c_FnBitPut2 (w : World) (bs : List UInt8) (n : Int) (c : Bool) (hn : n < 0 ∨ ((bs.take 100).length : Int) * 8 ≤ n) (hn2 : -32768 ≤ n ∧ n ≤ 32767) (hl : bs.length ≤ 9223372036854775807) : Calls Try.prog 9 #[.string (str bs), .int .i16 n, .bool c] w (Ret fun v w' => v = .bool true ∧ Fr [] w w') := by
  refine enter (fun ρ => ρ 6) Try.func9 rfl rfl rfl (res1 rfl) ?_
  have H := SH.nil w
  have hsz := size_str bs
  have hlt : (bs.take 100).length ≤ 100 := by simp; omega
  have hsz2 := size_str (bs.take 100)
  refine sq ?_
  refine rg ?_
  refine asg (v := .bool _) rfl rfl ?_
  refine nl ?_
  refine then_n ?_
  refine sq ?_
  refine sq ?_
  refine rg ?_
  refine mv (v := .string _) rfl rfl ?_
  refine lnT rfl Try.underlying9 rfl ?_
  refine gtr rfl rfl rfl ?_
  refine nl ?_
  refine then_n ?_
  first | refine cd rfl (fun hc1 => ?_) (fun hc1 => ?_) | refine cn rfl (fun hc1 => ?_) (fun hc1 => ?_)   -- test 1
  · refine sq ?_
    refine rg ?_
    refine asg (v := .bool _) rfl rfl ?_
    refine nl ?_
    refine then_n ?_
    refine rt ?_
    refine then_r ?_
    refine fin_r ?_
    exact ⟨rfl, H.fr⟩
  · refine sk ?_
    refine then_n ?_
    refine sq ?_
    refine rg ?_
    refine mv (v := .string _) rfl rfl ?_
    refine cl ca20 (c_someBits _ _ (by omega)) rfl ?_
    rintro _ w1 ⟨rfl, F⟩
    replace H := H.keep F; clear F
    refine mv (v := .int .i16 _) rfl rfl ?_
    refine cvi rfl rfl Try.underlying3 (by first | exact w_i64 (by omega) | exact w_i64 (rng_i64 _) | rfl) rfl ?_
    refine asg (v := .string _) rfl rfl ?_
    refine asg (v := .int .i64 _) rfl rfl ?_
    refine nl ?_
    refine then_n ?_
    refine sq ?_
    refine rg ?_
    refine mv (v := .string _) rfl rfl ?_
    refine mv (v := .int .i64 _) rfl rfl ?_
    refine mv (v := .bool _) rfl rfl ?_
    refine cl ca27 (c_BitPutErr _ _ _ _ (by omega) (by omega) (by omega)) rfl ?_
    rintro _ w2 ⟨⟨p, rfl⟩, F⟩
    replace H := H.keep F; clear F
    refine mv (v := .tuple _) rfl rfl ?_
    refine xt rfl rfl rfl ?_
    refine xt rfl rfl rfl ?_
    refine asg (v := .string _) rfl rfl ?_
    refine asg (v := .bool _) rfl rfl ?_
    refine nl ?_
    refine then_n ?_
    refine sq ?_
    refine sq ?_
    refine rg ?_
    refine mv (v := .int .i64 _) rfl rfl ?_
    refine lss rfl rfl rfl ?_
    refine mv (v := .bool _) rfl rfl ?_
    first | refine spd (t := 29) rfl (fun hg1 => ?_) (fun hg1 => ?_) | refine sp (t := 29) rfl (fun hg1 => ?_) (fun hg1 => ?_)   -- guard 1
    · refine gn rfl rfl ?_
      refine gn rfl rfl ?_
      refine gn rfl rfl ?_
      refine gn rfl rfl ?_
      refine gn rfl rfl ?_
      refine pkT (v := .bool _) rfl rfl rfl ?_
      refine nl ?_
      refine then_n ?_
      refine cbT rfl rfl ?_
      refine sq ?_
      refine rg ?_
      refine cl ca27 (c_BitPut _ [0] 1 false (by decide) (by decide)) rfl ?_
      rintro _ w3 ⟨rfl, F⟩
      replace H := H.keep F; clear F
      refine mv (v := .tuple _) rfl rfl ?_
      refine xt rfl rfl rfl ?_
      refine xt rfl rfl rfl ?_
      refine asg (v := .string _) rfl rfl ?_
      refine asg (v := .bool _) rfl rfl ?_
      refine nl ?_
      refine then_n ?_
      refine sq ?_
      refine rg ?_
      refine mv (v := .bool _) rfl rfl ?_
      refine unot rfl rfl ?_
      refine mv (v := .bool _) rfl rfl ?_
      first | refine spL (t := 42) (b := true) rfl ?_ | refine spT (t := 42) rfl rfl ?_   -- guard 2
      refine gy rfl ?_
      refine mv (v := .bool _) rfl rfl ?_
      refine pkT (v := .bool _) rfl rfl rfl ?_
      refine mv (v := .bool _) rfl rfl ?_
      first | refine spL (t := 45) (b := true) rfl ?_ | refine spT (t := 45) rfl rfl ?_   -- guard 3
      refine gy rfl ?_
      refine mv (v := .string _) rfl rfl ?_
      refine gy rfl ?_
      refine eqlT rfl rfl rfl ?_
      refine pkT (v := .bool _) rfl rfl rfl ?_
      refine asg (v := .bool _) rfl rfl ?_
      refine nl ?_
      refine then_n ?_
      refine rt ?_
      refine then_r ?_
      refine fin_r ?_
      exact ⟨congrArg Value.bool (decide_eq_true (by decide +kernel)), H.fr⟩
    · refine gy rfl ?_
      refine mv (v := .int .i64 _) rfl rfl ?_
      refine gy rfl ?_
      refine mv (v := .string _) rfl rfl ?_
      refine gy rfl ?_
      refine lnT rfl Try.underlying9 rfl ?_
      refine gy rfl ?_
      refine mul rfl rfl (by first | exact w_i64 (by omega) | exact w_i64 (rng_i64 _) | rfl) rfl ?_
      refine gy rfl ?_
      refine geq rfl rfl rfl ?_
      refine pkF (v := .bool _) rfl rfl rfl ?_
      refine nl ?_
      refine then_n ?_
      first | refine cT rfl (by omega) ?_ | refine cbT rfl (by omega) ?_   -- test 2
      refine sq ?_
      refine rg ?_
      refine cl ca27 (c_BitPut _ [0] 1 false (by decide) (by decide)) rfl ?_
      rintro _ w4 ⟨rfl, F⟩
      replace H := H.keep F; clear F
      refine mv (v := .tuple _) rfl rfl ?_
      refine xt rfl rfl rfl ?_
      refine xt rfl rfl rfl ?_
      refine asg (v := .string _) rfl rfl ?_
      refine asg (v := .bool _) rfl rfl ?_
      refine nl ?_
      refine then_n ?_
      refine sq ?_
      refine rg ?_
      refine mv (v := .bool _) rfl rfl ?_
      refine unot rfl rfl ?_
      refine mv (v := .bool _) rfl rfl ?_
      first | refine spL (t := 42) (b := true) rfl ?_ | refine spT (t := 42) rfl rfl ?_   -- guard 4
      refine gy rfl ?_
      refine mv (v := .bool _) rfl rfl ?_
      refine pkT (v := .bool _) rfl rfl rfl ?_
      refine mv (v := .bool _) rfl rfl ?_
      first | refine spL (t := 45) (b := true) rfl ?_ | refine spT (t := 45) rfl rfl ?_   -- guard 5
      refine gy rfl ?_
      refine mv (v := .string _) rfl rfl ?_
      refine gy rfl ?_
      refine eqlT rfl rfl rfl ?_
      refine pkT (v := .bool _) rfl rfl rfl ?_
      refine asg (v := .bool _) rfl rfl ?_
      refine nl ?_
      refine then_n ?_
      refine rt ?_
      refine then_r ?_
      refine fin_r ?_
      exact ⟨congrArg Value.bool (decide_eq_true (by decide +kernel)), H.fr⟩

theorem c_FnBitPut (w : World) (bs : List UInt8) (n : Int) (c : Bool) (hn2 : -32768 ≤ n ∧ n ≤ 32767) (hl : bs.length ≤ 9223372036854775807) : Calls Try.prog 9 #[.string (str bs), .int .i16 n, .bool c] w (Ret fun v w' => v = .bool true ∧ Fr [] w w') := by
  by_cases h : n < 0 ∨ ((bs.take 100).length : Int) * 8 ≤ n
  · exact c_FnBitPut2 w bs n c h hn2 hl
  · obtain ⟨k, rfl⟩ := Int.eq_ofNat_of_zero_le (show 0 ≤ n by omega)
    exact c_FnBitPut1 w bs k c (by omega) hl

end Go.Proofs.Ytbldfojecpljoaa.X
