/- Walks of functions, printed by a program of this claim. -/
import Derived.Test.YtbldfojecpljoaaT1
import Derived.Test.YtbldfojecpljoaaT2
namespace Go.Proofs.Ytbldfojecpljoaa.X
set_option linter.unusedVariables false
set_option linter.unusedSimpArgs false
open Go Go.RowKit

namespace T3
theorem ca13 : callable Try.prog 13 = true := by kernel_rfl
theorem ca25 : callable Try.prog 25 = true := by kernel_rfl
theorem ri5 : rowInfo Try.prog 5 = some ([.int .u8 0], 1) := by kernel_rfl
theorem sz5_1 : sizeB Try.prog 5 1 = true := by kernel_rfl
theorem ze5 : zeroL Try.prog 5 = some [.int .u8 0] := by kernel_rfl

end T3
open T3

set_option maxRecDepth 100000 in
theorem c_FnCrcJoin (w : World) (x : Int) (A A2 : Option Addr) (m c m2 c2 : Nat) (bs bs2 : List UInt8) (hb : RB w A m bs) (hm : m ≤ 9223372036854775807) (hmc : m ≤ c) (hb2 : RB w A2 m2 bs2) (hm2 : m2 ≤ 9223372036854775807) (hmc2 : m2 ≤ c2) (hx : 0 ≤ x ∧ x ≤ 4294967295) : Calls Try.prog 11 #[.int .u32 x, .slice A m c, .slice A2 m2 c2] w (Ret fun v w' => v = .bool true ∧ Fr [] w w') := by
  refine enter (fun ρ => ρ 6) Try.func11 rfl rfl rfl (res1 rfl) ?_
  have H := SH.nil w
  have hq1 := hb.take (k := (min (m : Int) 2000).toNat) (by omega)
  have hq2 := hb2.take (k := (min (m2 : Int) 2000).toNat) (by omega)
  generalize hu1 : bs.take (min (m : Int) 2000).toNat = u1 at hq1
  generalize hu2 : bs2.take (min (m2 : Int) 2000).toNat = u2 at hq2
  refine sq ?_
  refine rg ?_
  refine asg (v := .bool _) rfl rfl ?_
  refine nl ?_
  refine then_n ?_
  refine sq ?_
  refine sq ?_
  refine rg ?_
  refine mv (v := .slice _ _ _) rfl rfl ?_
  refine lnS rfl Try.underlying23 rfl ?_
  refine gtr rfl rfl rfl ?_
  refine mv (v := .bool _) rfl rfl ?_
  first | refine spd (t := 11) rfl (fun hg1 => ?_) (fun hg1 => ?_) | refine sp (t := 11) rfl (fun hg1 => ?_) (fun hg1 => ?_)   -- guard 1
  · refine gn rfl rfl ?_
    refine gn rfl rfl ?_
    refine gn rfl rfl ?_
    refine pkT (v := .bool _) rfl rfl rfl ?_
    refine nl ?_
    refine then_n ?_
    refine cbT rfl rfl ?_
    refine sq ?_
    refine rg ?_
    refine asg (v := .bool _) rfl rfl ?_
    refine nl ?_
    refine then_n ?_
    refine rt ?_
    refine then_r ?_
    refine fin_r ?_
    exact ⟨rfl, H.fr⟩
  · refine gy rfl ?_
    refine mv (v := .slice _ _ _) rfl rfl ?_
    refine gy rfl ?_
    refine lnS rfl Try.underlying23 rfl ?_
    refine gy rfl ?_
    refine gtr rfl rfl rfl ?_
    refine pkF (v := .bool _) rfl rfl rfl ?_
    refine nl ?_
    refine then_n ?_
    first | refine cd rfl (fun hc1 => ?_) (fun hc1 => ?_) | refine cn rfl (fun hc1 => ?_) (fun hc1 => ?_)   -- test 1
    · refine sq ?_
      refine rg ?_
      refine asg (v := .bool _) rfl rfl ?_
      refine nl ?_
      refine then_n ?_
      refine rt ?_
      refine then_r ?_
      refine fin_r ?_
      exact ⟨rfl, H.fr⟩
    · refine sk ?_
      refine then_n ?_
      refine sq ?_
      refine dr (by kernel_rfl) ?_   -- region 3
      have H := H.drew
      refine holdH H [] ?_
      refine tk (i := 0) rfl (by kernel_rfl) rfl H (fun w' H => r_mv (v := .slice _ _ _) rfl) ?_
      refine tk (i := 1) rfl (by kernel_rfl) rfl H (fun w' H => r_mv (v := .slice _ _ _) rfl) ?_
      refine tk (i := 2) rfl (by kernel_rfl) rfl H (fun w' H => r_lnS rfl Try.underlying23) ?_
      refine tk (i := 3) rfl (by kernel_rfl) rfl H (fun w' H => r_min2 rfl rfl) ?_
      refine tk (i := 4) rfl (by kernel_rfl) rfl H (fun w' H => r_slh rfl rfl Try.underlying23 sz5_1 (by first | trivial | omega | (simp; omega))) ?_
      refine tk (i := 5) rfl (by kernel_rfl) rfl H (fun w' H => r_mv (v := .slice _ _ _) rfl) ?_
      refine tk (i := 6) rfl (by kernel_rfl) rfl H (fun w' H => r_mv (v := .slice _ _ _) rfl) ?_
      refine tk (i := 7) rfl (by kernel_rfl) rfl H (fun w' H => r_lnS rfl Try.underlying23) ?_
      refine tk (i := 8) rfl (by kernel_rfl) rfl H (fun w' H => r_min2 rfl rfl) ?_
      refine tk (i := 9) rfl (by kernel_rfl) rfl H (fun w' H => r_slh rfl rfl Try.underlying23 sz5_1 (by first | trivial | omega | (simp; omega))) ?_
      refine tk (i := 10) rfl (by kernel_rfl) rfl H (fun w' H => r_asg (v := .slice _ _ _) rfl) ?_
      refine tk (i := 11) rfl (by kernel_rfl) rfl H (fun w' H => r_asg (v := .slice _ _ _) rfl) ?_
      refine da (by kernel_rfl) ?_
      refine then_n ?_
      refine sq ?_
      refine rg ?_
      refine bsl (sz := 1) (out := ?o1) H Try.underlying23 ze5 sz5_1 (by decide) ?f1 rfl ?_
      case f1 =>
        exact FS.nil
      clear H; intro b1 w1 hb1 H _
      refine mv (v := .slice _ _ _) rfl rfl ?_
      refine apB (xs := []) (bs := u1) (OR.made (n := 0) (cap := 0) (cur := []) H (by decide) (by decide) rfl) rfl rfl (hq1.keep H.fr) Try.underlying23 ri5 (by omega) rfl ?_
      clear H; intro A3 cp3 w2 O
      refine mv (v := .slice _ _ _) rfl rfl ?_
      refine apB (bs := u2) O rfl rfl (hq2.keep O.sh.fr) Try.underlying23 ri5 (by omega) rfl ?_
      clear O; intro A4 cp4 w3 O
      have H := O.sh
      refine asg (v := .slice _ _ _) rfl rfl ?_
      refine nl ?_
      refine then_n ?_
      refine sq ?_
      refine rg ?_
      refine mv (v := .int .u32 _) rfl rfl ?_
      refine mv (v := .slice _ _ _) rfl rfl ?_
      refine cl ca13 (c_impl_crc32c _ _ _ _ _ _ O.rb (by omega)) rfl ?_
      rintro _ w4 ⟨rfl, F⟩
      replace H := H.keep F; replace O := O.keep F; clear F
      refine mv (v := .int .u32 _) rfl rfl ?_
      refine mv (v := .slice _ _ _) rfl rfl ?_
      refine cl ca13 (c_impl_crc32c _ _ _ _ _ _ (hq1.keep H.fr) (by omega)) rfl ?_
      rintro _ w5 ⟨rfl, F⟩
      replace H := H.keep F; replace O := O.keep F; clear F
      refine mv (v := .slice _ _ _) rfl rfl ?_
      refine cl ca13 (c_impl_crc32c _ _ _ _ _ _ (hq2.keep H.fr) (by omega)) rfl ?_
      rintro _ w6 ⟨rfl, F⟩
      replace H := H.keep F; replace O := O.keep F; clear F
      refine eql rfl rfl rfl ?_
      refine mv (v := .bool _) rfl rfl ?_
      first | refine spL (t := 40) (b := true) rfl ?_ | refine spT (t := 40) rfl (by simp [crcC_append]) ?_   -- guard 2
      refine gy rfl ?_
      refine mv (v := .int .u32 _) rfl rfl ?_
      refine gy rfl ?_
      refine cvi rfl rfl Try.underlying34 (by first | exact w_u16 (by omega) | exact w_u16 (rng_u16 _) | exact m_u16 _) rfl ?_
      refine gy rfl ?_
      refine mv (v := .slice _ _ _) rfl rfl ?_
      refine gy rfl ?_
      refine cl ca25 (c_impl_crc16 _ _ _ _ _ _ O.rb (by omega) (by omega)) rfl ?_
      rintro _ w7 ⟨rfl, F⟩
      replace H := H.keep F; replace O := O.keep F; clear F
      refine gy rfl ?_
      refine mv (v := .int .u32 _) rfl rfl ?_
      refine gy rfl ?_
      refine cvi rfl rfl Try.underlying34 (by first | exact w_u16 (by omega) | exact w_u16 (rng_u16 _) | exact m_u16 _) rfl ?_
      refine gy rfl ?_
      refine mv (v := .slice _ _ _) rfl rfl ?_
      refine gy rfl ?_
      refine cl ca25 (c_impl_crc16 _ _ _ _ _ _ (hq1.keep H.fr) (by omega) (by omega)) rfl ?_
      rintro _ w8 ⟨rfl, F⟩
      replace H := H.keep F; replace O := O.keep F; clear F
      refine gy rfl ?_
      refine mv (v := .slice _ _ _) rfl rfl ?_
      refine gy rfl ?_
      refine cl ca25 (c_impl_crc16 _ _ _ _ _ _ (hq2.keep H.fr) (by omega) (cc_rng _ (by omega))) rfl ?_
      rintro _ w9 ⟨rfl, F⟩
      replace H := H.keep F; replace O := O.keep F; clear F
      refine gy rfl ?_
      refine eql rfl rfl rfl ?_
      refine pkT (v := .bool _) rfl rfl rfl ?_
      refine mv (v := .bool _) rfl rfl ?_
      first | refine spL (t := 53) (b := true) rfl ?_ | refine spT (t := 53) rfl (by simp [cc_append]) ?_   -- guard 3
      refine gy rfl ?_
      refine bsl (sz := 1) (out := ?o2) H Try.underlying23 ze5 sz5_1 (by decide) ?f2 rfl ?_
      case f2 =>
        refine FS.one (v := .int .u8 _) rfl rfl rfl (by decide) ?_
        refine FS.one (v := .int .u8 _) rfl rfl rfl (by decide) ?_
        exact FS.nil
      clear H; intro b2 w10 hb2 H _
      refine gy rfl ?_
      refine cvM H rfl Try.underlying23 Try.underlying5 rfl ?_
      clear H; intro w11 H _
      refine gy rfl ?_
      refine cl ca25 (c_impl_crc16 _ _ _ _ _ [97, 98] (RB.allL [97, 98] H rfl) (by decide) (by decide)) rfl ?_
      rintro _ w12 ⟨rfl, F⟩
      replace H := H.keep F; clear F
      refine gy rfl ?_
      refine neq rfl rfl rfl ?_
      refine pkT (v := .bool _) rfl rfl rfl ?_
      refine asg (v := .bool _) rfl rfl ?_
      refine nl ?_
      refine then_n ?_
      refine rt ?_
      refine fin_r ?_
      exact ⟨congrArg Value.bool (decide_eq_true (by decide +kernel)), H.fr⟩

end Go.Proofs.Ytbldfojecpljoaa.X
