/- Laws and walks on the road to the statement: P30, GptSpoil, GptGood, P31, P32, GptStand, P33, P34, P35, TabRow, P36, WritePure. -/
import Derived.Test.YthcaejaaalkglaaGreatDoorM6
/- Walks of functions, printed by a program of this claim. -/
namespace Go.Proofs.YthcaejaaalkglaaGreatDoor.X
set_option linter.unusedVariables false
set_option linter.unusedSimpArgs false
open Go Go.RowKit
namespace PF
theorem ag95_2 : aggB Tryz.prog 95 2 = true := by kernel_rfl
theorem ca43 : callable Tryz.prog 43 = true := by kernel_rfl
theorem fo95_0 : fieldOff Tryz.prog 95 0 = some 0 := by kernel_rfl
theorem fo95_1 : fieldOff Tryz.prog 95 1 = some 1 := by kernel_rfl
theorem sz95_2 : sizeB Tryz.prog 95 2 = true := by kernel_rfl
theorem ze95 : zeroL Tryz.prog 95 = some [.int .u8 0, .int .u8 0] := by kernel_rfl
end PF
open PF
set_option maxRecDepth 100000 in
set_option maxHeartbeats 1000000 in
theorem c_word (w : World) (s : List UInt8) (hs : 8 ≤ s.length) : Calls Tryz.prog 43 #[.string (str s)] w (Ret fun v w' => ∃ x, v = .int .u64 x ∧ Fr [] w w') := by
 refine enter (fun ρ => ρ 2) Tryz.func43 rfl rfl rfl (res1 rfl) ?_
 have H := SH.nil w
 refine sq ?_
 refine rg ?_
 refine asg (v := .int .u64 _) rfl rfl ?_
 refine nl ?_
 refine then_n ?_
 refine sq ?_
 refine cbF rfl rfl ?_
 refine sk ?_
 refine then_n ?_
 refine sq ?_
 refine dr (by kernel_rfl) ?_
 have H := H.drew
 refine hold (fun _ => True) [] ?_
 refine tk (i := 0) rfl (by kernel_rfl) rfl trivial (fun _ _ => r_mv (v := .string _) rfl) ?_
 refine tk (i := 1) rfl (by kernel_rfl) rfl trivial (fun _ _ => r_ixS rfl rfl Tryz.underlying9 (by first | omega | (constructor <;> simp <;> omega))) ?_
 refine tk (i := 2) rfl (by kernel_rfl) rfl trivial (fun _ _ => r_cvi rfl rfl Tryz.underlying28 (by first | exact w_u64 (by omega) | exact w_u64 (rng_u64 _) | exact m_u64 _)) ?_
 refine tk (i := 3) rfl (by kernel_rfl) rfl trivial (fun _ _ => r_mv (v := .string _) rfl) ?_
 refine tk (i := 4) rfl (by kernel_rfl) rfl trivial (fun _ _ => r_ixS rfl rfl Tryz.underlying9 (by first | omega | (constructor <;> simp <;> omega))) ?_
 refine tk (i := 5) rfl (by kernel_rfl) rfl trivial (fun _ _ => r_cvi rfl rfl Tryz.underlying28 (by first | exact w_u64 (by omega) | exact w_u64 (rng_u64 _) | exact m_u64 _)) ?_
 refine tk (i := 6) rfl (by kernel_rfl) rfl trivial (fun _ _ => r_shlK (s := 8) (p := 256) rfl rfl (by decide) (by decide) (by first | exact w_u64 (by omega) | exact w_u64 (rng_u64 _) | exact m_u64 _)) ?_
 refine tk (i := 7) rfl (by kernel_rfl) rfl trivial (fun _ _ => r_bor rfl rfl rfl) ?_
 refine tk (i := 8) rfl (by kernel_rfl) rfl trivial (fun _ _ => r_mv (v := .string _) rfl) ?_
 refine tk (i := 9) rfl (by kernel_rfl) rfl trivial (fun _ _ => r_ixS rfl rfl Tryz.underlying9 (by first | omega | (constructor <;> simp <;> omega))) ?_
 refine tk (i := 10) rfl (by kernel_rfl) rfl trivial (fun _ _ => r_cvi rfl rfl Tryz.underlying28 (by first | exact w_u64 (by omega) | exact w_u64 (rng_u64 _) | exact m_u64 _)) ?_
 refine tk (i := 11) rfl (by kernel_rfl) rfl trivial (fun _ _ => r_shlK (s := 16) (p := 65536) rfl rfl (by decide) (by decide) (by first | exact w_u64 (by omega) | exact w_u64 (rng_u64 _) | exact m_u64 _)) ?_
 refine tk (i := 12) rfl (by kernel_rfl) rfl trivial (fun _ _ => r_bor rfl rfl rfl) ?_
 refine tk (i := 13) rfl (by kernel_rfl) rfl trivial (fun _ _ => r_mv (v := .string _) rfl) ?_
 refine tk (i := 14) rfl (by kernel_rfl) rfl trivial (fun _ _ => r_ixS rfl rfl Tryz.underlying9 (by first | omega | (constructor <;> simp <;> omega))) ?_
 refine tk (i := 15) rfl (by kernel_rfl) rfl trivial (fun _ _ => r_cvi rfl rfl Tryz.underlying28 (by first | exact w_u64 (by omega) | exact w_u64 (rng_u64 _) | exact m_u64 _)) ?_
 refine tk (i := 16) rfl (by kernel_rfl) rfl trivial (fun _ _ => r_shlK (s := 24) (p := 16777216) rfl rfl (by decide) (by decide) (by first | exact w_u64 (by omega) | exact w_u64 (rng_u64 _) | exact m_u64 _)) ?_
 refine tk (i := 17) rfl (by kernel_rfl) rfl trivial (fun _ _ => r_bor rfl rfl rfl) ?_
 refine tk (i := 18) rfl (by kernel_rfl) rfl trivial (fun _ _ => r_mv (v := .string _) rfl) ?_
 refine tk (i := 19) rfl (by kernel_rfl) rfl trivial (fun _ _ => r_ixS rfl rfl Tryz.underlying9 (by first | omega | (constructor <;> simp <;> omega))) ?_
 refine tk (i := 20) rfl (by kernel_rfl) rfl trivial (fun _ _ => r_cvi rfl rfl Tryz.underlying28 (by first | exact w_u64 (by omega) | exact w_u64 (rng_u64 _) | exact m_u64 _)) ?_
 refine tk (i := 21) rfl (by kernel_rfl) rfl trivial (fun _ _ => r_shlK (s := 32) (p := 4294967296) rfl rfl (by decide) (by decide) (by first | exact w_u64 (by omega) | exact w_u64 (rng_u64 _) | exact m_u64 _)) ?_
 refine tk (i := 22) rfl (by kernel_rfl) rfl trivial (fun _ _ => r_bor rfl rfl rfl) ?_
 refine tk (i := 23) rfl (by kernel_rfl) rfl trivial (fun _ _ => r_mv (v := .string _) rfl) ?_
 refine tk (i := 24) rfl (by kernel_rfl) rfl trivial (fun _ _ => r_ixS rfl rfl Tryz.underlying9 (by first | omega | (constructor <;> simp <;> omega))) ?_
 refine tk (i := 25) rfl (by kernel_rfl) rfl trivial (fun _ _ => r_cvi rfl rfl Tryz.underlying28 (by first | exact w_u64 (by omega) | exact w_u64 (rng_u64 _) | exact m_u64 _)) ?_
 refine tk (i := 26) rfl (by kernel_rfl) rfl trivial (fun _ _ => r_shlK (s := 40) (p := 1099511627776) rfl rfl (by decide) (by decide) (by first | exact w_u64 (by omega) | exact w_u64 (rng_u64 _) | exact m_u64 _)) ?_
 refine tk (i := 27) rfl (by kernel_rfl) rfl trivial (fun _ _ => r_bor rfl rfl rfl) ?_
 refine tk (i := 28) rfl (by kernel_rfl) rfl trivial (fun _ _ => r_mv (v := .string _) rfl) ?_
 refine tk (i := 29) rfl (by kernel_rfl) rfl trivial (fun _ _ => r_ixS rfl rfl Tryz.underlying9 (by first | omega | (constructor <;> simp <;> omega))) ?_
 refine tk (i := 30) rfl (by kernel_rfl) rfl trivial (fun _ _ => r_cvi rfl rfl Tryz.underlying28 (by first | exact w_u64 (by omega) | exact w_u64 (rng_u64 _) | exact m_u64 _)) ?_
 refine tk (i := 31) rfl (by kernel_rfl) rfl trivial (fun _ _ => r_shlK (s := 48) (p := 281474976710656) rfl rfl (by decide) (by decide) (by first | exact w_u64 (by omega) | exact w_u64 (rng_u64 _) | exact m_u64 _)) ?_
 refine tk (i := 32) rfl (by kernel_rfl) rfl trivial (fun _ _ => r_bor rfl rfl rfl) ?_
 refine tk (i := 33) rfl (by kernel_rfl) rfl trivial (fun _ _ => r_mv (v := .string _) rfl) ?_
 refine tk (i := 34) rfl (by kernel_rfl) rfl trivial (fun _ _ => r_ixS rfl rfl Tryz.underlying9 (by first | omega | (constructor <;> simp <;> omega))) ?_
 refine tk (i := 35) rfl (by kernel_rfl) rfl trivial (fun _ _ => r_cvi rfl rfl Tryz.underlying28 (by first | exact w_u64 (by omega) | exact w_u64 (rng_u64 _) | exact m_u64 _)) ?_
 refine tk (i := 36) rfl (by kernel_rfl) rfl trivial (fun _ _ => r_shlK (s := 56) (p := 72057594037927936) rfl rfl (by decide) (by decide) (by first | exact w_u64 (by omega) | exact w_u64 (rng_u64 _) | exact m_u64 _)) ?_
 refine tk (i := 37) rfl (by kernel_rfl) rfl trivial (fun _ _ => r_bor rfl rfl rfl) ?_
 refine tk (i := 38) rfl (by kernel_rfl) rfl trivial (fun _ _ => r_asg (v := .int .u64 _) rfl) ?_
 refine unfree ?_
 refine dn (by kernel_rfl) ?_
 refine then_n ?_
 refine rt ?_
 refine fin_r ?_
 exact ⟨_, rfl, H.fr⟩
set_option maxRecDepth 100000 in
set_option maxHeartbeats 2000000 in
theorem c_valid (w : World) (s : List UInt8) (hU : Utf8W w) (hs : s.length ≤ 2147483647) : Calls Tryz.prog 25 #[.string (str s)] w (Ret fun v w' => ∃ b, v = .bool b ∧ Fr [] w w') := by
 refine enter (fun ρ => ρ 2) Tryz.func25 rfl rfl rfl (res1 rfl) ?_
 have H := SH.nil w
 refine sq ?_
 refine rg ?_
 refine asg (v := .bool _) rfl rfl ?_
 refine nl ?_
 refine then_n ?_
 refine sq ?_
 refine bk ?_
 refine lpM (α := List UInt8) [0, 2, 3, 4, 5, 6, 7, 8, 9, 10, 11, 12, 13, 14, 15, 16, 17, 18, 19, 20, 21, 22, 23, 24, 25, 26, 27, 28, 29, 30, 31, 32, 33, 34, 35, 36, 37, 38, 39, 40, 41, 42, 43, 44, 45, 46, 47, 48, 49, 50, 51, 52, 53, 54, 55, 56, 57, 58, 59, 60, 61, 62, 63, 64, 65, 66, 67, 68, 69, 70, 71, 72, 73, 74, 75, 76, 77, 78, 79, 80, 81, 82, 83, 84, 85, 86, 87, 88, 89, 90, 91, 92, 93, 94, 95, 96, 97, 98, 99, 100, 101, 102, 103, 104, 105, 106, 107, 108, 109, 110, 111, 112, 113, 114, 115, 116, 117, 118, 119, 120, 121, 122, 123, 124, 125, 126, 127, 128, 129, 130, 131, 132, 133, 134, 135, 136, 137, 138, 139, 140, 141, 142, 143, 144, 145, 146, 147, 148, 149, 150, 151, 152, 153, 154, 155, 156, 157, 158, 159, 160, 161, 162, 163, 164, 165, 166, 167, 168] (fun l => [(0, .string (str l))]) (fun l w' => l.length ≤ s.length ∧ SH w [] w' []) (fun l => l.length) s ?_ (fCX (fN _)) ?_
 ·exact ⟨by omega, H⟩
 ·rintro l ρx w1 ⟨hl, H⟩
  have hz := size_str l
  refine sq ?_
  refine sq ?_
  refine rg ?_
  refine mv (v := .string _) rfl rfl ?_
  refine lnT rfl Tryz.underlying9 rfl ?_
  refine gtr rfl rfl rfl ?_
  refine nl ?_
  refine then_n ?_
  refine cd rfl (fun hc1 => ?_) (fun hc1 => ?_)
  ·refine sk ?_
   refine then_n ?_
   refine bk ?_
   refine sq ?_
   refine rg ?_
   refine mv (v := .string _) rfl rfl ?_
   refine ixS rfl rfl Tryz.underlying9 (by first | omega | (constructor <;> simp <;> omega)) rfl ?_; intro hu1
   refine asg (v := .int .u8 _) rfl rfl ?_
   refine nl ?_
   refine then_n ?_
   refine sq ?_
   refine sq ?_
   refine rg ?_
   refine mv (v := .int .u8 _) rfl rfl ?_
   refine lss rfl rfl rfl ?_
   refine nl ?_
   refine then_n ?_
   refine cd rfl (fun hc2 => ?_) (fun hc2 => ?_)
   ·have hz1 : (str (List.drop (Int.toNat 1) l)).size = l.length - 1 := by rw [size_str, List.length_drop]; rfl
    have hz9 : (str (List.drop (Int.toNat 8) (List.drop (Int.toNat 1) l))).size = l.length - 1 - 8 := by rw [size_str, List.length_drop, List.length_drop]; rfl
    refine sq ?_
    refine rg ?_
    refine mv (v := .string _) rfl rfl ?_
    refine slTl rfl rfl Tryz.underlying9 (by first | trivial | omega | (simp; omega)) rfl ?_
    refine asg (v := .string _) rfl rfl ?_
    refine nl ?_
    refine then_n ?_
    refine sq ?_
    refine sq ?_
    refine rg ?_
    refine mv (v := .string _) rfl rfl ?_
    refine lnT rfl Tryz.underlying9 rfl ?_
    refine gtr rfl rfl rfl ?_
    refine mv (v := .bool _) rfl rfl ?_
    refine spd (t := 19) rfl (fun hg1 => ?_) (fun hg1 => ?_)
    ·refine gy rfl ?_
     refine mv (v := .string _) rfl rfl ?_
     refine gy rfl ?_
     refine cl ca43 (c_word _ _ (by first | omega | (simp <;> omega))) rfl ?_
     rintro _ w2 ⟨x1, rfl, F⟩
     replace H := H.keep F; clear F
     refine gy rfl ?_
     refine band rfl rfl rfl rfl ?_
     refine gy rfl ?_
     refine eql rfl rfl rfl ?_
     refine pkT (v := .bool _) rfl rfl rfl ?_
     refine nl ?_
     refine then_n ?_
     refine cd rfl (fun hc3 => ?_) (fun hc3 => ?_)
     ·refine sq ?_
      refine rg ?_
      refine mv (v := .string _) rfl rfl ?_
      refine slTl rfl rfl Tryz.underlying9 (by first | trivial | omega | (simp; omega)) rfl ?_
      refine asg (v := .string _) rfl rfl ?_
      refine nl ?_
      refine then_n ?_
      refine sq ?_
      refine dr (by kernel_rfl) ?_
      have H := H.drew
      refine holdH H [] ?_
      refine tk (i := 0) rfl (by kernel_rfl) rfl H (fun w' H => r_mv (v := .string _) rfl) ?_
      refine tk (i := 1) rfl (by kernel_rfl) rfl H (fun w' H => r_lnT rfl Tryz.underlying9) ?_
      refine tk (i := 2) rfl (by kernel_rfl) rfl H (fun w' H => r_gtr rfl rfl) ?_
      refine tk (i := 3) rfl (by kernel_rfl) rfl H (fun w' H => r_mv (v := .bool _) rfl) ?_
      refine spad (t := 30) rfl (fun hg2 => ?_) (fun hg2 => ?_)
      ·refine tkg (i := 4) rfl (by kernel_rfl) rfl H rfl (fun w' H => r_mv (v := .string _) rfl) ?_
       refine tkg (i := 6) rfl (by kernel_rfl) rfl H rfl (fun w' H => r_mv (v := .string _) rfl) ?_
       refine tkg (i := 7) rfl (by kernel_rfl) rfl H rfl (fun w' H => r_slTl rfl rfl Tryz.underlying9 (by first | trivial | omega | (simp; omega))) ?_
       refine fk (i := 5) (by kernel_rfl) rfl rfl rfl ?_
       refine gy rfl ?_
       refine cl ca43 (c_word _ _ (by first | omega | (simp <;> omega))) rfl ?_
       rintro _ w3 ⟨x2, rfl, F⟩
       replace H := H.keep F; clear F
       refine nl ?_
       refine then_n ?_
       refine ⟨H, ?_⟩
       refine fk (i := 8) (by kernel_rfl) rfl rfl rfl ?_
       refine gy rfl ?_
       refine cl ca43 (c_word _ _ (by first | omega | (simp <;> omega))) rfl ?_
       rintro _ w4 ⟨x3, rfl, F⟩
       replace H := H.keep F; clear F
       refine nl ?_
       refine then_n ?_
       refine ⟨H, ?_⟩
       refine tkg (i := 9) rfl (by kernel_rfl) rfl H rfl (fun w' H => r_bor rfl rfl rfl) ?_
       refine tkg (i := 10) rfl (by kernel_rfl) rfl H rfl (fun w' H => r_band rfl rfl rfl) ?_
       refine tkg (i := 11) rfl (by kernel_rfl) rfl H rfl (fun w' H => r_eql rfl rfl) ?_
       refine tk (i := 12) rfl (by kernel_rfl) rfl H (fun w' H => r_pkT (v := .bool _) rfl rfl) ?_
       refine da (by kernel_rfl) ?_
       refine then_n ?_
       refine cd rfl (fun hc4 => ?_) (fun hc4 => ?_)
       ·refine sq ?_
        refine rg ?_
        refine mv (v := .string _) rfl rfl ?_
        refine slTl rfl rfl Tryz.underlying9 (by first | trivial | omega | (simp; omega)) rfl ?_
        refine asg (v := .string _) rfl rfl ?_
        refine nl ?_
        refine then_n ?_
        refine bk ?_
        refine lpM (α := List UInt8) [0, 42, 43, 44, 45, 46, 47, 48, 49, 50, 51, 52, 53, 54, 55, 56, 57, 58, 59, 60, 61, 62, 63, 64] (fun k => [(0, .string (str k))]) (fun k w' => k.length < l.length ∧ SH w [] w' []) (fun k => k.length) (List.drop (Int.toNat 16) (List.drop (Int.toNat 8) (List.drop (Int.toNat 1) l))) ?_ (fCX (fN _)) ?_
        ·exact ⟨by simp <;> omega, H⟩
        ·rintro k ρx w5 ⟨hk, H⟩
         have hzk := size_str k
         refine sq ?_
         refine sq ?_
         refine dr (by kernel_rfl) ?_
         have H := H.drew
         refine holdH H [] ?_
         refine tk (i := 0) rfl (by kernel_rfl) rfl H (fun w' H => r_mv (v := .string _) rfl) ?_
         refine tk (i := 1) rfl (by kernel_rfl) rfl H (fun w' H => r_lnT rfl Tryz.underlying9) ?_
         refine tk (i := 2) rfl (by kernel_rfl) rfl H (fun w' H => r_gtr rfl rfl) ?_
         refine tk (i := 3) rfl (by kernel_rfl) rfl H (fun w' H => r_mv (v := .bool _) rfl) ?_
         refine spad (t := 45) rfl (fun hg3 => ?_) (fun hg3 => ?_)
         ·refine tkg (i := 4) rfl (by kernel_rfl) rfl H rfl (fun w' H => r_mv (v := .string _) rfl) ?_
          refine tkg (i := 6) rfl (by kernel_rfl) rfl H rfl (fun w' H => r_mv (v := .string _) rfl) ?_
          refine tkg (i := 7) rfl (by kernel_rfl) rfl H rfl (fun w' H => r_slTl rfl rfl Tryz.underlying9 (by first | trivial | omega | (simp; omega))) ?_
          refine tkg (i := 10) rfl (by kernel_rfl) rfl H rfl (fun w' H => r_mv (v := .string _) rfl) ?_
          refine tkg (i := 11) rfl (by kernel_rfl) rfl H rfl (fun w' H => r_slTl rfl rfl Tryz.underlying9 (by first | trivial | omega | (simp; omega))) ?_
          refine tkg (i := 13) rfl (by kernel_rfl) rfl H rfl (fun w' H => r_mv (v := .string _) rfl) ?_
          refine tkg (i := 14) rfl (by kernel_rfl) rfl H rfl (fun w' H => r_slTl rfl rfl Tryz.underlying9 (by first | trivial | omega | (simp; omega))) ?_
          refine fk (i := 5) (by kernel_rfl) rfl rfl rfl ?_
          refine gy rfl ?_
          refine cl ca43 (c_word _ _ (by first | omega | (simp <;> omega))) rfl ?_
          rintro _ w6 ⟨x4, rfl, F⟩
          replace H := H.keep F; clear F
          refine nl ?_
          refine then_n ?_
          refine ⟨H, ?_⟩
          refine fk (i := 8) (by kernel_rfl) rfl rfl rfl ?_
          refine gy rfl ?_
          refine cl ca43 (c_word _ _ (by first | omega | (simp <;> omega))) rfl ?_
          rintro _ w7 ⟨x5, rfl, F⟩
          replace H := H.keep F; clear F
          refine nl ?_
          refine then_n ?_
          refine ⟨H, ?_⟩
          refine tkg (i := 9) rfl (by kernel_rfl) rfl H rfl (fun w' H => r_bor rfl rfl rfl) ?_
          refine fk (i := 12) (by kernel_rfl) rfl rfl rfl ?_
          refine gy rfl ?_
          refine cl ca43 (c_word _ _ (by first | omega | (simp <;> omega))) rfl ?_
          rintro _ w8 ⟨x6, rfl, F⟩
          replace H := H.keep F; clear F
          refine nl ?_
          refine then_n ?_
          refine ⟨H, ?_⟩
          refine fk (i := 15) (by kernel_rfl) rfl rfl rfl ?_
          refine gy rfl ?_
          refine cl ca43 (c_word _ _ (by first | omega | (simp <;> omega))) rfl ?_
          rintro _ w9 ⟨x7, rfl, F⟩
          replace H := H.keep F; clear F
          refine nl ?_
          refine then_n ?_
          refine ⟨H, ?_⟩
          refine tkg (i := 16) rfl (by kernel_rfl) rfl H rfl (fun w' H => r_bor rfl rfl rfl) ?_
          refine tkg (i := 17) rfl (by kernel_rfl) rfl H rfl (fun w' H => r_bor rfl rfl rfl) ?_
          refine tkg (i := 18) rfl (by kernel_rfl) rfl H rfl (fun w' H => r_band rfl rfl rfl) ?_
          refine tkg (i := 19) rfl (by kernel_rfl) rfl H rfl (fun w' H => r_eql rfl rfl) ?_
          refine tk (i := 20) rfl (by kernel_rfl) rfl H (fun w' H => r_pkT (v := .bool _) rfl rfl) ?_
          refine da (by kernel_rfl) ?_
          refine then_n ?_
          refine cd rfl (fun hc5 => ?_) (fun hc5 => ?_)
          ·refine sk ?_
           refine then_n ?_
           refine bk ?_
           refine rg ?_
           refine mv (v := .string _) rfl rfl ?_
           refine slTl rfl rfl Tryz.underlying9 (by first | trivial | omega | (simp; omega)) rfl ?_
           refine asg (v := .string _) rfl rfl ?_
           refine nl ?_
           refine in_n ?_
           refine loop_n ?_
           exact ⟨List.drop (Int.toNat 32) k, (by (try dsimp only); simp <;> omega), ⟨by simp <;> omega, H⟩, (fCX (fN _)), agX⟩
          ·refine ex ?_
           refine then_e ?_
           refine loop_e ?_
           refine in_hit rfl ?_
           refine then_n ?_
           refine ex ?_
           refine then_e ?_
           refine in_hit rfl ?_
           refine loop_n ?_
           exact ⟨k, (by (try dsimp only); omega), ⟨by omega, H⟩, (fCX (fN _)), agX⟩
         ·refine tkn (i := 4) rfl (by kernel_rfl) rfl H rfl ?_
          refine tkn (i := 5) rfl (by kernel_rfl) rfl H rfl ?_
          refine tkn (i := 6) rfl (by kernel_rfl) rfl H rfl ?_
          refine tkn (i := 7) rfl (by kernel_rfl) rfl H rfl ?_
          refine tkn (i := 8) rfl (by kernel_rfl) rfl H rfl ?_
          refine tkn (i := 9) rfl (by kernel_rfl) rfl H rfl ?_
          refine tkn (i := 10) rfl (by kernel_rfl) rfl H rfl ?_
          refine tkn (i := 11) rfl (by kernel_rfl) rfl H rfl ?_
          refine tkn (i := 12) rfl (by kernel_rfl) rfl H rfl ?_
          refine tkn (i := 13) rfl (by kernel_rfl) rfl H rfl ?_
          refine tkn (i := 14) rfl (by kernel_rfl) rfl H rfl ?_
          refine tkn (i := 15) rfl (by kernel_rfl) rfl H rfl ?_
          refine tkn (i := 16) rfl (by kernel_rfl) rfl H rfl ?_
          refine tkn (i := 17) rfl (by kernel_rfl) rfl H rfl ?_
          refine tkn (i := 18) rfl (by kernel_rfl) rfl H rfl ?_
          refine tkn (i := 19) rfl (by kernel_rfl) rfl H rfl ?_
          refine tk (i := 20) rfl (by kernel_rfl) rfl H (fun w' H => r_pkF (v := .bool _) rfl rfl) ?_
          refine da (by kernel_rfl) ?_
          refine then_n ?_
          refine cbF rfl rfl ?_
          refine ex ?_
          refine then_e ?_
          refine loop_e ?_
          refine in_hit rfl ?_
          refine then_n ?_
          refine ex ?_
          refine then_e ?_
          refine in_hit rfl ?_
          refine loop_n ?_
          exact ⟨k, (by (try dsimp only); omega), ⟨by omega, H⟩, (fCX (fN _)), agX⟩
       ·refine sk ?_
        refine then_n ?_
        refine ex ?_
        refine then_e ?_
        refine in_hit rfl ?_
        refine loop_n ?_
        exact ⟨List.drop (Int.toNat 8) (List.drop (Int.toNat 1) l), (by (try dsimp only); simp <;> omega), ⟨by simp <;> omega, H⟩, (fCX (fN _)), agX⟩
      ·refine tkn (i := 4) rfl (by kernel_rfl) rfl H rfl ?_
       refine tkn (i := 5) rfl (by kernel_rfl) rfl H rfl ?_
       refine tkn (i := 6) rfl (by kernel_rfl) rfl H rfl ?_
       refine tkn (i := 7) rfl (by kernel_rfl) rfl H rfl ?_
       refine tkn (i := 8) rfl (by kernel_rfl) rfl H rfl ?_
       refine tkn (i := 9) rfl (by kernel_rfl) rfl H rfl ?_
       refine tkn (i := 10) rfl (by kernel_rfl) rfl H rfl ?_
       refine tkn (i := 11) rfl (by kernel_rfl) rfl H rfl ?_
       refine tk (i := 12) rfl (by kernel_rfl) rfl H (fun w' H => r_pkF (v := .bool _) rfl rfl) ?_
       refine da (by kernel_rfl) ?_
       refine then_n ?_
       refine cbF rfl rfl ?_
       refine sk ?_
       refine then_n ?_
       refine ex ?_
       refine then_e ?_
       refine in_hit rfl ?_
       refine loop_n ?_
       exact ⟨List.drop (Int.toNat 8) (List.drop (Int.toNat 1) l), (by (try dsimp only); simp <;> omega), ⟨by simp <;> omega, H⟩, (fCX (fN _)), agX⟩
     ·refine sk ?_
      refine then_n ?_
      refine ex ?_
      refine then_e ?_
      refine in_hit rfl ?_
      refine loop_n ?_
      exact ⟨List.drop (Int.toNat 1) l, (by (try dsimp only); simp <;> omega), ⟨by simp <;> omega, H⟩, (fCX (fN _)), agX⟩
    ·refine gn rfl rfl ?_
     refine gn rfl rfl ?_
     refine gn rfl rfl ?_
     refine gn rfl rfl ?_
     refine pkF (v := .bool _) rfl rfl rfl ?_
     refine nl ?_
     refine then_n ?_
     refine cbF rfl rfl ?_
     refine sk ?_
     refine then_n ?_
     refine ex ?_
     refine then_e ?_
     refine in_hit rfl ?_
     refine loop_n ?_
     exact ⟨List.drop (Int.toNat 1) l, (by (try dsimp only); simp <;> omega), ⟨by simp <;> omega, H⟩, (fCX (fN _)), agX⟩
   ·refine sk ?_
    refine then_n ?_
    refine sq ?_
    refine rg ?_
    refine mv (v := .int .u8 _) rfl rfl ?_
    refine iyN ((l.getD (Int.toNat 0) 0).toNat) rfl rfl Tryz.underlying93 sz5_1 (by omega) (by omega) rfl ?_
    obtain ⟨fc, hfr, hfc⟩ := hU.1 (l.getD (Int.toNat 0) 0).toNat (by omega)
    refine lc (v := .int .u8 fc) rfl (H.fr.cell hfc (by simp)) sc5 rfl ?_
    refine asg (v := .int .u8 _) rfl rfl ?_
    refine nl ?_
    refine then_n ?_
    refine sq ?_
    refine rg ?_
    refine mv (v := .int .u8 _) rfl rfl ?_
    refine band rfl rfl rfl rfl ?_
    refine cvi rfl rfl Tryz.underlying3 (by first | exact w_i64 (by omega) | exact w_i64 (rng_i64 _) | rfl) rfl ?_
    refine asg (v := .int .i64 _) rfl rfl ?_
    refine nl ?_
    refine then_n ?_
    refine sq ?_
    refine rg ?_
    refine mv (v := .int .u8 _) rfl rfl ?_
    refine shrK (s := 4) (p := 16) rfl rfl (by decide) (by decide) rfl rfl ?_
    refine iyN ((fc / 16).toNat * 2) rfl rfl Tryz.underlying96 sz95_2 (by omega) (by omega) rfl ?_
    obtain ⟨ra, rb, hrr, hrc⟩ := hU.two (i := (fc / 16).toNat) (by omega)
    refine lw (vs := [.int .u8 ra, .int .u8 rb]) rfl ag95_2 rfl (fun j v h => H.fr.cell (hrc j v h) (by simp)) rfl ?_
    refine al H ze95 rfl ?_
    clear H; intro b8 w10 hb8 H _
    refine sa H rfl rfl ag95_2 rfl rfl (by decide) (by omega) rfl ?_
    clear H; intro w11 H _
    refine nl ?_
    refine then_n ?_
    refine sq ?_
    refine rg ?_
    refine mv (v := .int .i64 _) rfl rfl ?_
    refine nl ?_
    refine then_n ?_
    refine bk ?_
    refine sq ?_
    refine rg ?_
    refine eql rfl rfl rfl ?_
    refine asg (v := .bool _) rfl rfl ?_
    refine nl ?_
    refine then_n ?_
    refine cd rfl (fun hc6 => ?_) (fun hc6 => ?_)
    ·refine sq ?_
     refine sq ?_
     refine dr (by kernel_rfl) ?_
     have H := H.drew
     refine holdH H [] ?_
     refine tk (i := 0) rfl (by kernel_rfl) rfl H (fun w' H => r_mv (v := .string _) rfl) ?_
     refine tk (i := 1) rfl (by kernel_rfl) rfl H (fun w' H => r_lnT rfl Tryz.underlying9) ?_
     refine tk (i := 2) rfl (by kernel_rfl) rfl H (fun w' H => r_lss rfl rfl) ?_
     refine tk (i := 3) rfl (by kernel_rfl) rfl H (fun w' H => r_mv (v := .bool _) rfl) ?_
     refine spad (t := 81) rfl (fun hg4 => ?_) (fun hg4 => ?_)
     ·refine tkn (i := 4) rfl (by kernel_rfl) rfl H rfl ?_
      refine tkn (i := 5) rfl (by kernel_rfl) rfl H rfl ?_
      refine tkn (i := 6) rfl (by kernel_rfl) rfl H rfl ?_
      refine tkn (i := 7) rfl (by kernel_rfl) rfl H rfl ?_
      refine tkn (i := 8) rfl (by kernel_rfl) rfl H rfl ?_
      refine tk (i := 9) rfl (by kernel_rfl) rfl H (fun w' H => r_pkT (v := .bool _) rfl rfl) ?_
      refine tk (i := 10) rfl (by kernel_rfl) rfl H (fun w' H => r_mv (v := .bool _) rfl) ?_
      refine tkn (i := 11) rfl (by kernel_rfl) rfl H rfl ?_
      refine tkn (i := 12) rfl (by kernel_rfl) rfl H rfl ?_
      refine tkn (i := 13) rfl (by kernel_rfl) rfl H rfl ?_
      refine tkn (i := 14) rfl (by kernel_rfl) rfl H rfl ?_
      refine tkn (i := 15) rfl (by kernel_rfl) rfl H rfl ?_
      refine tk (i := 16) rfl (by kernel_rfl) rfl H (fun w' H => r_pkT (v := .bool _) rfl rfl) ?_
      refine da (by kernel_rfl) ?_
      refine then_n ?_
      refine cbT rfl rfl ?_
      refine sq ?_
      refine rg ?_
      refine asg (v := .bool _) rfl rfl ?_
      refine nl ?_
      refine then_n ?_
      refine rt ?_
      refine then_r ?_
      refine in_r ?_
      refine in_r ?_
      refine loop_r ?_
      refine in_r ?_
      refine then_r ?_
      refine fin_r ?_
      exact ⟨_, rfl, H.fr⟩
     ·refine tkg (i := 4) rfl (by kernel_rfl) rfl H rfl (fun w' H => r_mv (v := .string _) rfl) ?_
      refine tkg (i := 5) rfl (by kernel_rfl) rfl H rfl (fun w' H => r_ixS rfl rfl Tryz.underlying9 (by first | omega | (constructor <;> simp <;> omega))) ?_
      refine tkg (i := 6) rfl (by kernel_rfl) rfl H rfl (fun w' H => r_fa rfl fo95_0) ?_
      refine tkg (i := 7) rfl (by kernel_rfl) rfl H rfl (fun w' H => r_ld H rfl sc5 rfl) ?_
      refine tkg (i := 8) rfl (by kernel_rfl) rfl H rfl (fun w' H => r_lss rfl rfl) ?_
      refine tk (i := 9) rfl (by kernel_rfl) rfl H (fun w' H => r_pkF (v := .bool _) rfl rfl) ?_
      refine tk (i := 10) rfl (by kernel_rfl) rfl H (fun w' H => r_mv (v := .bool _) rfl) ?_
      refine spad (t := 88) rfl (fun hg5 => ?_) (fun hg5 => ?_)
      ·refine tkn (i := 11) rfl (by kernel_rfl) rfl H rfl ?_
       refine tkn (i := 12) rfl (by kernel_rfl) rfl H rfl ?_
       refine tkn (i := 13) rfl (by kernel_rfl) rfl H rfl ?_
       refine tkn (i := 14) rfl (by kernel_rfl) rfl H rfl ?_
       refine tkn (i := 15) rfl (by kernel_rfl) rfl H rfl ?_
       refine tk (i := 16) rfl (by kernel_rfl) rfl H (fun w' H => r_pkT (v := .bool _) rfl rfl) ?_
       refine da (by kernel_rfl) ?_
       refine then_n ?_
       refine cbT rfl rfl ?_
       refine sq ?_
       refine rg ?_
       refine asg (v := .bool _) rfl rfl ?_
       refine nl ?_
       refine then_n ?_
       refine rt ?_
       refine then_r ?_
       refine in_r ?_
       refine in_r ?_
       refine loop_r ?_
       refine in_r ?_
       refine then_r ?_
       refine fin_r ?_
       exact ⟨_, rfl, H.fr⟩
      ·refine tkg (i := 11) rfl (by kernel_rfl) rfl H rfl (fun w' H => r_fa rfl fo95_1) ?_
       refine tkg (i := 12) rfl (by kernel_rfl) rfl H rfl (fun w' H => r_ld H rfl sc5 rfl) ?_
       refine tkg (i := 13) rfl (by kernel_rfl) rfl H rfl (fun w' H => r_mv (v := .string _) rfl) ?_
       refine tkg (i := 14) rfl (by kernel_rfl) rfl H rfl (fun w' H => r_ixS rfl rfl Tryz.underlying9 (by first | omega | (constructor <;> simp <;> omega))) ?_
       refine tkg (i := 15) rfl (by kernel_rfl) rfl H rfl (fun w' H => r_lss rfl rfl) ?_
       refine tk (i := 16) rfl (by kernel_rfl) rfl H (fun w' H => r_pkF (v := .bool _) rfl rfl) ?_
       refine da (by kernel_rfl) ?_
       refine then_n ?_
       refine cd rfl (fun hc7 => ?_) (fun hc7 => ?_)
       ·refine sq ?_
        refine rg ?_
        refine asg (v := .bool _) rfl rfl ?_
        refine nl ?_
        refine then_n ?_
        refine rt ?_
        refine then_r ?_
        refine in_r ?_
        refine in_r ?_
        refine loop_r ?_
        refine in_r ?_
        refine then_r ?_
        refine fin_r ?_
        exact ⟨_, rfl, H.fr⟩
       ·refine sk ?_
        refine then_n ?_
        refine rg ?_
        refine mv (v := .string _) rfl rfl ?_
        refine slTl rfl rfl Tryz.underlying9 (by first | trivial | omega | (simp; omega)) rfl ?_
        refine asg (v := .string _) rfl rfl ?_
        refine nl ?_
        refine in_n ?_
        refine in_n ?_
        refine loop_n ?_
        exact ⟨List.drop (Int.toNat 2) l, (by (try dsimp only); simp <;> omega), ⟨by simp <;> omega, H.subX⟩, (fCX (fN _)), agX⟩
    ·refine sq ?_
     refine rg ?_
     refine eql rfl rfl rfl ?_
     refine asg (v := .bool _) rfl rfl ?_
     refine nl ?_
     refine then_n ?_
     refine cd rfl (fun hc8 => ?_) (fun hc8 => ?_)
     ·refine sq ?_
      refine sq ?_
      refine dr (by kernel_rfl) ?_
      have H := H.drew
      refine holdH H [] ?_
      refine tk (i := 0) rfl (by kernel_rfl) rfl H (fun w' H => r_mv (v := .string _) rfl) ?_
      refine tk (i := 1) rfl (by kernel_rfl) rfl H (fun w' H => r_lnT rfl Tryz.underlying9) ?_
      refine tk (i := 2) rfl (by kernel_rfl) rfl H (fun w' H => r_lss rfl rfl) ?_
      refine tk (i := 3) rfl (by kernel_rfl) rfl H (fun w' H => r_mv (v := .bool _) rfl) ?_
      refine spad (t := 102) rfl (fun hg6 => ?_) (fun hg6 => ?_)
      ·refine tkn (i := 4) rfl (by kernel_rfl) rfl H rfl ?_
       refine tkn (i := 5) rfl (by kernel_rfl) rfl H rfl ?_
       refine tkn (i := 6) rfl (by kernel_rfl) rfl H rfl ?_
       refine tkn (i := 7) rfl (by kernel_rfl) rfl H rfl ?_
       refine tkn (i := 8) rfl (by kernel_rfl) rfl H rfl ?_
       refine tk (i := 9) rfl (by kernel_rfl) rfl H (fun w' H => r_pkT (v := .bool _) rfl rfl) ?_
       refine tk (i := 10) rfl (by kernel_rfl) rfl H (fun w' H => r_mv (v := .bool _) rfl) ?_
       refine tkn (i := 11) rfl (by kernel_rfl) rfl H rfl ?_
       refine tkn (i := 12) rfl (by kernel_rfl) rfl H rfl ?_
       refine tkn (i := 13) rfl (by kernel_rfl) rfl H rfl ?_
       refine tkn (i := 14) rfl (by kernel_rfl) rfl H rfl ?_
       refine tkn (i := 15) rfl (by kernel_rfl) rfl H rfl ?_
       refine tk (i := 16) rfl (by kernel_rfl) rfl H (fun w' H => r_pkT (v := .bool _) rfl rfl) ?_
       refine tk (i := 17) rfl (by kernel_rfl) rfl H (fun w' H => r_mv (v := .bool _) rfl) ?_
       refine tkn (i := 18) rfl (by kernel_rfl) rfl H rfl ?_
       refine tkn (i := 19) rfl (by kernel_rfl) rfl H rfl ?_
       refine tkn (i := 20) rfl (by kernel_rfl) rfl H rfl ?_
       refine tk (i := 21) rfl (by kernel_rfl) rfl H (fun w' H => r_pkT (v := .bool _) rfl rfl) ?_
       refine tk (i := 22) rfl (by kernel_rfl) rfl H (fun w' H => r_mv (v := .bool _) rfl) ?_
       refine tkn (i := 23) rfl (by kernel_rfl) rfl H rfl ?_
       refine tkn (i := 24) rfl (by kernel_rfl) rfl H rfl ?_
       refine tkn (i := 25) rfl (by kernel_rfl) rfl H rfl ?_
       refine tk (i := 26) rfl (by kernel_rfl) rfl H (fun w' H => r_pkT (v := .bool _) rfl rfl) ?_
       refine da (by kernel_rfl) ?_
       refine then_n ?_
       refine cbT rfl rfl ?_
       refine sq ?_
       refine rg ?_
       refine asg (v := .bool _) rfl rfl ?_
       refine nl ?_
       refine then_n ?_
       refine rt ?_
       refine then_r ?_
       refine in_r ?_
       refine in_r ?_
       refine loop_r ?_
       refine in_r ?_
       refine then_r ?_
       refine fin_r ?_
       exact ⟨_, rfl, H.fr⟩
      ·refine tkg (i := 4) rfl (by kernel_rfl) rfl H rfl (fun w' H => r_mv (v := .string _) rfl) ?_
       refine tkg (i := 5) rfl (by kernel_rfl) rfl H rfl (fun w' H => r_ixS rfl rfl Tryz.underlying9 (by first | omega | (constructor <;> simp <;> omega))) ?_
       refine tkg (i := 6) rfl (by kernel_rfl) rfl H rfl (fun w' H => r_fa rfl fo95_0) ?_
       refine tkg (i := 7) rfl (by kernel_rfl) rfl H rfl (fun w' H => r_ld H rfl sc5 rfl) ?_
       refine tkg (i := 8) rfl (by kernel_rfl) rfl H rfl (fun w' H => r_lss rfl rfl) ?_
       refine tk (i := 9) rfl (by kernel_rfl) rfl H (fun w' H => r_pkF (v := .bool _) rfl rfl) ?_
       refine tk (i := 10) rfl (by kernel_rfl) rfl H (fun w' H => r_mv (v := .bool _) rfl) ?_
       refine spad (t := 109) rfl (fun hg7 => ?_) (fun hg7 => ?_)
       ·refine tkn (i := 11) rfl (by kernel_rfl) rfl H rfl ?_
        refine tkn (i := 12) rfl (by kernel_rfl) rfl H rfl ?_
        refine tkn (i := 13) rfl (by kernel_rfl) rfl H rfl ?_
        refine tkn (i := 14) rfl (by kernel_rfl) rfl H rfl ?_
        refine tkn (i := 15) rfl (by kernel_rfl) rfl H rfl ?_
        refine tk (i := 16) rfl (by kernel_rfl) rfl H (fun w' H => r_pkT (v := .bool _) rfl rfl) ?_
        refine tk (i := 17) rfl (by kernel_rfl) rfl H (fun w' H => r_mv (v := .bool _) rfl) ?_
        refine tkn (i := 18) rfl (by kernel_rfl) rfl H rfl ?_
        refine tkn (i := 19) rfl (by kernel_rfl) rfl H rfl ?_
        refine tkn (i := 20) rfl (by kernel_rfl) rfl H rfl ?_
        refine tk (i := 21) rfl (by kernel_rfl) rfl H (fun w' H => r_pkT (v := .bool _) rfl rfl) ?_
        refine tk (i := 22) rfl (by kernel_rfl) rfl H (fun w' H => r_mv (v := .bool _) rfl) ?_
        refine tkn (i := 23) rfl (by kernel_rfl) rfl H rfl ?_
        refine tkn (i := 24) rfl (by kernel_rfl) rfl H rfl ?_
        refine tkn (i := 25) rfl (by kernel_rfl) rfl H rfl ?_
        refine tk (i := 26) rfl (by kernel_rfl) rfl H (fun w' H => r_pkT (v := .bool _) rfl rfl) ?_
        refine da (by kernel_rfl) ?_
        refine then_n ?_
        refine cbT rfl rfl ?_
        refine sq ?_
        refine rg ?_
        refine asg (v := .bool _) rfl rfl ?_
        refine nl ?_
        refine then_n ?_
        refine rt ?_
        refine then_r ?_
        refine in_r ?_
        refine in_r ?_
        refine loop_r ?_
        refine in_r ?_
        refine then_r ?_
        refine fin_r ?_
        exact ⟨_, rfl, H.fr⟩
       ·refine tkg (i := 11) rfl (by kernel_rfl) rfl H rfl (fun w' H => r_fa rfl fo95_1) ?_
        refine tkg (i := 12) rfl (by kernel_rfl) rfl H rfl (fun w' H => r_ld H rfl sc5 rfl) ?_
        refine tkg (i := 13) rfl (by kernel_rfl) rfl H rfl (fun w' H => r_mv (v := .string _) rfl) ?_
        refine tkg (i := 14) rfl (by kernel_rfl) rfl H rfl (fun w' H => r_ixS rfl rfl Tryz.underlying9 (by first | omega | (constructor <;> simp <;> omega))) ?_
        refine tkg (i := 15) rfl (by kernel_rfl) rfl H rfl (fun w' H => r_lss rfl rfl) ?_
        refine tk (i := 16) rfl (by kernel_rfl) rfl H (fun w' H => r_pkF (v := .bool _) rfl rfl) ?_
        refine tk (i := 17) rfl (by kernel_rfl) rfl H (fun w' H => r_mv (v := .bool _) rfl) ?_
        refine spad (t := 116) rfl (fun hg8 => ?_) (fun hg8 => ?_)
        ·refine tkn (i := 18) rfl (by kernel_rfl) rfl H rfl ?_
         refine tkn (i := 19) rfl (by kernel_rfl) rfl H rfl ?_
         refine tkn (i := 20) rfl (by kernel_rfl) rfl H rfl ?_
         refine tk (i := 21) rfl (by kernel_rfl) rfl H (fun w' H => r_pkT (v := .bool _) rfl rfl) ?_
         refine tk (i := 22) rfl (by kernel_rfl) rfl H (fun w' H => r_mv (v := .bool _) rfl) ?_
         refine tkn (i := 23) rfl (by kernel_rfl) rfl H rfl ?_
         refine tkn (i := 24) rfl (by kernel_rfl) rfl H rfl ?_
         refine tkn (i := 25) rfl (by kernel_rfl) rfl H rfl ?_
         refine tk (i := 26) rfl (by kernel_rfl) rfl H (fun w' H => r_pkT (v := .bool _) rfl rfl) ?_
         refine da (by kernel_rfl) ?_
         refine then_n ?_
         refine cbT rfl rfl ?_
         refine sq ?_
         refine rg ?_
         refine asg (v := .bool _) rfl rfl ?_
         refine nl ?_
         refine then_n ?_
         refine rt ?_
         refine then_r ?_
         refine in_r ?_
         refine in_r ?_
         refine loop_r ?_
         refine in_r ?_
         refine then_r ?_
         refine fin_r ?_
         exact ⟨_, rfl, H.fr⟩
        ·refine tkg (i := 18) rfl (by kernel_rfl) rfl H rfl (fun w' H => r_mv (v := .string _) rfl) ?_
         refine tkg (i := 19) rfl (by kernel_rfl) rfl H rfl (fun w' H => r_ixS rfl rfl Tryz.underlying9 (by first | omega | (constructor <;> simp <;> omega))) ?_
         refine tkg (i := 20) rfl (by kernel_rfl) rfl H rfl (fun w' H => r_lss rfl rfl) ?_
         refine tk (i := 21) rfl (by kernel_rfl) rfl H (fun w' H => r_pkF (v := .bool _) rfl rfl) ?_
         refine tk (i := 22) rfl (by kernel_rfl) rfl H (fun w' H => r_mv (v := .bool _) rfl) ?_
         refine spad (t := 121) rfl (fun hg9 => ?_) (fun hg9 => ?_)
         ·refine tkn (i := 23) rfl (by kernel_rfl) rfl H rfl ?_
          refine tkn (i := 24) rfl (by kernel_rfl) rfl H rfl ?_
          refine tkn (i := 25) rfl (by kernel_rfl) rfl H rfl ?_
          refine tk (i := 26) rfl (by kernel_rfl) rfl H (fun w' H => r_pkT (v := .bool _) rfl rfl) ?_
          refine da (by kernel_rfl) ?_
          refine then_n ?_
          refine cbT rfl rfl ?_
          refine sq ?_
          refine rg ?_
          refine asg (v := .bool _) rfl rfl ?_
          refine nl ?_
          refine then_n ?_
          refine rt ?_
          refine then_r ?_
          refine in_r ?_
          refine in_r ?_
          refine loop_r ?_
          refine in_r ?_
          refine then_r ?_
          refine fin_r ?_
          exact ⟨_, rfl, H.fr⟩
         ·refine tkg (i := 23) rfl (by kernel_rfl) rfl H rfl (fun w' H => r_mv (v := .string _) rfl) ?_
          refine tkg (i := 24) rfl (by kernel_rfl) rfl H rfl (fun w' H => r_ixS rfl rfl Tryz.underlying9 (by first | omega | (constructor <;> simp <;> omega))) ?_
          refine tkg (i := 25) rfl (by kernel_rfl) rfl H rfl (fun w' H => r_lss rfl rfl) ?_
          refine tk (i := 26) rfl (by kernel_rfl) rfl H (fun w' H => r_pkF (v := .bool _) rfl rfl) ?_
          refine da (by kernel_rfl) ?_
          refine then_n ?_
          refine cd rfl (fun hc9 => ?_) (fun hc9 => ?_)
          ·refine sq ?_
           refine rg ?_
           refine asg (v := .bool _) rfl rfl ?_
           refine nl ?_
           refine then_n ?_
           refine rt ?_
           refine then_r ?_
           refine in_r ?_
           refine in_r ?_
           refine loop_r ?_
           refine in_r ?_
           refine then_r ?_
           refine fin_r ?_
           exact ⟨_, rfl, H.fr⟩
          ·refine sk ?_
           refine then_n ?_
           refine rg ?_
           refine mv (v := .string _) rfl rfl ?_
           refine slTl rfl rfl Tryz.underlying9 (by first | trivial | omega | (simp; omega)) rfl ?_
           refine asg (v := .string _) rfl rfl ?_
           refine nl ?_
           refine in_n ?_
           refine in_n ?_
           refine loop_n ?_
           exact ⟨List.drop (Int.toNat 3) l, (by (try dsimp only); simp <;> omega), ⟨by simp <;> omega, H.subX⟩, (fCX (fN _)), agX⟩
     ·refine sq ?_
      refine rg ?_
      refine eql rfl rfl rfl ?_
      refine asg (v := .bool _) rfl rfl ?_
      refine nl ?_
      refine then_n ?_
      refine cd rfl (fun hc10 => ?_) (fun hc10 => ?_)
      ·refine sq ?_
       refine sq ?_
       refine dr (by kernel_rfl) ?_
       have H := H.drew
       refine holdH H [] ?_
       refine tk (i := 0) rfl (by kernel_rfl) rfl H (fun w' H => r_mv (v := .string _) rfl) ?_
       refine tk (i := 1) rfl (by kernel_rfl) rfl H (fun w' H => r_lnT rfl Tryz.underlying9) ?_
       refine tk (i := 2) rfl (by kernel_rfl) rfl H (fun w' H => r_lss rfl rfl) ?_
       refine tk (i := 3) rfl (by kernel_rfl) rfl H (fun w' H => r_mv (v := .bool _) rfl) ?_
       refine spad (t := 133) rfl (fun hg10 => ?_) (fun hg10 => ?_)
       ·refine tkn (i := 4) rfl (by kernel_rfl) rfl H rfl ?_
        refine tkn (i := 5) rfl (by kernel_rfl) rfl H rfl ?_
        refine tkn (i := 6) rfl (by kernel_rfl) rfl H rfl ?_
        refine tkn (i := 7) rfl (by kernel_rfl) rfl H rfl ?_
        refine tkn (i := 8) rfl (by kernel_rfl) rfl H rfl ?_
        refine tk (i := 9) rfl (by kernel_rfl) rfl H (fun w' H => r_pkT (v := .bool _) rfl rfl) ?_
        refine tk (i := 10) rfl (by kernel_rfl) rfl H (fun w' H => r_mv (v := .bool _) rfl) ?_
        refine tkn (i := 11) rfl (by kernel_rfl) rfl H rfl ?_
        refine tkn (i := 12) rfl (by kernel_rfl) rfl H rfl ?_
        refine tkn (i := 13) rfl (by kernel_rfl) rfl H rfl ?_
        refine tkn (i := 14) rfl (by kernel_rfl) rfl H rfl ?_
        refine tkn (i := 15) rfl (by kernel_rfl) rfl H rfl ?_
        refine tk (i := 16) rfl (by kernel_rfl) rfl H (fun w' H => r_pkT (v := .bool _) rfl rfl) ?_
        refine tk (i := 17) rfl (by kernel_rfl) rfl H (fun w' H => r_mv (v := .bool _) rfl) ?_
        refine tkn (i := 18) rfl (by kernel_rfl) rfl H rfl ?_
        refine tkn (i := 19) rfl (by kernel_rfl) rfl H rfl ?_
        refine tkn (i := 20) rfl (by kernel_rfl) rfl H rfl ?_
        refine tk (i := 21) rfl (by kernel_rfl) rfl H (fun w' H => r_pkT (v := .bool _) rfl rfl) ?_
        refine tk (i := 22) rfl (by kernel_rfl) rfl H (fun w' H => r_mv (v := .bool _) rfl) ?_
        refine tkn (i := 23) rfl (by kernel_rfl) rfl H rfl ?_
        refine tkn (i := 24) rfl (by kernel_rfl) rfl H rfl ?_
        refine tkn (i := 25) rfl (by kernel_rfl) rfl H rfl ?_
        refine tk (i := 26) rfl (by kernel_rfl) rfl H (fun w' H => r_pkT (v := .bool _) rfl rfl) ?_
        refine tk (i := 27) rfl (by kernel_rfl) rfl H (fun w' H => r_mv (v := .bool _) rfl) ?_
        refine tkn (i := 28) rfl (by kernel_rfl) rfl H rfl ?_
        refine tkn (i := 29) rfl (by kernel_rfl) rfl H rfl ?_
        refine tkn (i := 30) rfl (by kernel_rfl) rfl H rfl ?_
        refine tk (i := 31) rfl (by kernel_rfl) rfl H (fun w' H => r_pkT (v := .bool _) rfl rfl) ?_
        refine tk (i := 32) rfl (by kernel_rfl) rfl H (fun w' H => r_mv (v := .bool _) rfl) ?_
        refine tkn (i := 33) rfl (by kernel_rfl) rfl H rfl ?_
        refine tkn (i := 34) rfl (by kernel_rfl) rfl H rfl ?_
        refine tkn (i := 35) rfl (by kernel_rfl) rfl H rfl ?_
        refine tk (i := 36) rfl (by kernel_rfl) rfl H (fun w' H => r_pkT (v := .bool _) rfl rfl) ?_
        refine da (by kernel_rfl) ?_
        refine then_n ?_
        refine cbT rfl rfl ?_
        refine sq ?_
        refine rg ?_
        refine asg (v := .bool _) rfl rfl ?_
        refine nl ?_
        refine then_n ?_
        refine rt ?_
        refine then_r ?_
        refine in_r ?_
        refine in_r ?_
        refine loop_r ?_
        refine in_r ?_
        refine then_r ?_
        refine fin_r ?_
        exact ⟨_, rfl, H.fr⟩
       ·refine tkg (i := 4) rfl (by kernel_rfl) rfl H rfl (fun w' H => r_mv (v := .string _) rfl) ?_
        refine tkg (i := 5) rfl (by kernel_rfl) rfl H rfl (fun w' H => r_ixS rfl rfl Tryz.underlying9 (by first | omega | (constructor <;> simp <;> omega))) ?_
        refine tkg (i := 6) rfl (by kernel_rfl) rfl H rfl (fun w' H => r_fa rfl fo95_0) ?_
        refine tkg (i := 7) rfl (by kernel_rfl) rfl H rfl (fun w' H => r_ld H rfl sc5 rfl) ?_
        refine tkg (i := 8) rfl (by kernel_rfl) rfl H rfl (fun w' H => r_lss rfl rfl) ?_
        refine tk (i := 9) rfl (by kernel_rfl) rfl H (fun w' H => r_pkF (v := .bool _) rfl rfl) ?_
        refine tk (i := 10) rfl (by kernel_rfl) rfl H (fun w' H => r_mv (v := .bool _) rfl) ?_
        refine spad (t := 140) rfl (fun hg11 => ?_) (fun hg11 => ?_)
        ·refine tkn (i := 11) rfl (by kernel_rfl) rfl H rfl ?_
         refine tkn (i := 12) rfl (by kernel_rfl) rfl H rfl ?_
         refine tkn (i := 13) rfl (by kernel_rfl) rfl H rfl ?_
         refine tkn (i := 14) rfl (by kernel_rfl) rfl H rfl ?_
         refine tkn (i := 15) rfl (by kernel_rfl) rfl H rfl ?_
         refine tk (i := 16) rfl (by kernel_rfl) rfl H (fun w' H => r_pkT (v := .bool _) rfl rfl) ?_
         refine tk (i := 17) rfl (by kernel_rfl) rfl H (fun w' H => r_mv (v := .bool _) rfl) ?_
         refine tkn (i := 18) rfl (by kernel_rfl) rfl H rfl ?_
         refine tkn (i := 19) rfl (by kernel_rfl) rfl H rfl ?_
         refine tkn (i := 20) rfl (by kernel_rfl) rfl H rfl ?_
         refine tk (i := 21) rfl (by kernel_rfl) rfl H (fun w' H => r_pkT (v := .bool _) rfl rfl) ?_
         refine tk (i := 22) rfl (by kernel_rfl) rfl H (fun w' H => r_mv (v := .bool _) rfl) ?_
         refine tkn (i := 23) rfl (by kernel_rfl) rfl H rfl ?_
         refine tkn (i := 24) rfl (by kernel_rfl) rfl H rfl ?_
         refine tkn (i := 25) rfl (by kernel_rfl) rfl H rfl ?_
         refine tk (i := 26) rfl (by kernel_rfl) rfl H (fun w' H => r_pkT (v := .bool _) rfl rfl) ?_
         refine tk (i := 27) rfl (by kernel_rfl) rfl H (fun w' H => r_mv (v := .bool _) rfl) ?_
         refine tkn (i := 28) rfl (by kernel_rfl) rfl H rfl ?_
         refine tkn (i := 29) rfl (by kernel_rfl) rfl H rfl ?_
         refine tkn (i := 30) rfl (by kernel_rfl) rfl H rfl ?_
         refine tk (i := 31) rfl (by kernel_rfl) rfl H (fun w' H => r_pkT (v := .bool _) rfl rfl) ?_
         refine tk (i := 32) rfl (by kernel_rfl) rfl H (fun w' H => r_mv (v := .bool _) rfl) ?_
         refine tkn (i := 33) rfl (by kernel_rfl) rfl H rfl ?_
         refine tkn (i := 34) rfl (by kernel_rfl) rfl H rfl ?_
         refine tkn (i := 35) rfl (by kernel_rfl) rfl H rfl ?_
         refine tk (i := 36) rfl (by kernel_rfl) rfl H (fun w' H => r_pkT (v := .bool _) rfl rfl) ?_
         refine da (by kernel_rfl) ?_
         refine then_n ?_
         refine cbT rfl rfl ?_
         refine sq ?_
         refine rg ?_
         refine asg (v := .bool _) rfl rfl ?_
         refine nl ?_
         refine then_n ?_
         refine rt ?_
         refine then_r ?_
         refine in_r ?_
         refine in_r ?_
         refine loop_r ?_
         refine in_r ?_
         refine then_r ?_
         refine fin_r ?_
         exact ⟨_, rfl, H.fr⟩
        ·refine tkg (i := 11) rfl (by kernel_rfl) rfl H rfl (fun w' H => r_fa rfl fo95_1) ?_
         refine tkg (i := 12) rfl (by kernel_rfl) rfl H rfl (fun w' H => r_ld H rfl sc5 rfl) ?_
         refine tkg (i := 13) rfl (by kernel_rfl) rfl H rfl (fun w' H => r_mv (v := .string _) rfl) ?_
         refine tkg (i := 14) rfl (by kernel_rfl) rfl H rfl (fun w' H => r_ixS rfl rfl Tryz.underlying9 (by first | omega | (constructor <;> simp <;> omega))) ?_
         refine tkg (i := 15) rfl (by kernel_rfl) rfl H rfl (fun w' H => r_lss rfl rfl) ?_
         refine tk (i := 16) rfl (by kernel_rfl) rfl H (fun w' H => r_pkF (v := .bool _) rfl rfl) ?_
         refine tk (i := 17) rfl (by kernel_rfl) rfl H (fun w' H => r_mv (v := .bool _) rfl) ?_
         refine spad (t := 147) rfl (fun hg12 => ?_) (fun hg12 => ?_)
         ·refine tkn (i := 18) rfl (by kernel_rfl) rfl H rfl ?_
          refine tkn (i := 19) rfl (by kernel_rfl) rfl H rfl ?_
          refine tkn (i := 20) rfl (by kernel_rfl) rfl H rfl ?_
          refine tk (i := 21) rfl (by kernel_rfl) rfl H (fun w' H => r_pkT (v := .bool _) rfl rfl) ?_
          refine tk (i := 22) rfl (by kernel_rfl) rfl H (fun w' H => r_mv (v := .bool _) rfl) ?_
          refine tkn (i := 23) rfl (by kernel_rfl) rfl H rfl ?_
          refine tkn (i := 24) rfl (by kernel_rfl) rfl H rfl ?_
          refine tkn (i := 25) rfl (by kernel_rfl) rfl H rfl ?_
          refine tk (i := 26) rfl (by kernel_rfl) rfl H (fun w' H => r_pkT (v := .bool _) rfl rfl) ?_
          refine tk (i := 27) rfl (by kernel_rfl) rfl H (fun w' H => r_mv (v := .bool _) rfl) ?_
          refine tkn (i := 28) rfl (by kernel_rfl) rfl H rfl ?_
          refine tkn (i := 29) rfl (by kernel_rfl) rfl H rfl ?_
          refine tkn (i := 30) rfl (by kernel_rfl) rfl H rfl ?_
          refine tk (i := 31) rfl (by kernel_rfl) rfl H (fun w' H => r_pkT (v := .bool _) rfl rfl) ?_
          refine tk (i := 32) rfl (by kernel_rfl) rfl H (fun w' H => r_mv (v := .bool _) rfl) ?_
          refine tkn (i := 33) rfl (by kernel_rfl) rfl H rfl ?_
          refine tkn (i := 34) rfl (by kernel_rfl) rfl H rfl ?_
          refine tkn (i := 35) rfl (by kernel_rfl) rfl H rfl ?_
          refine tk (i := 36) rfl (by kernel_rfl) rfl H (fun w' H => r_pkT (v := .bool _) rfl rfl) ?_
          refine da (by kernel_rfl) ?_
          refine then_n ?_
          refine cbT rfl rfl ?_
          refine sq ?_
          refine rg ?_
          refine asg (v := .bool _) rfl rfl ?_
          refine nl ?_
          refine then_n ?_
          refine rt ?_
          refine then_r ?_
          refine in_r ?_
          refine in_r ?_
          refine loop_r ?_
          refine in_r ?_
          refine then_r ?_
          refine fin_r ?_
          exact ⟨_, rfl, H.fr⟩
         ·refine tkg (i := 18) rfl (by kernel_rfl) rfl H rfl (fun w' H => r_mv (v := .string _) rfl) ?_
          refine tkg (i := 19) rfl (by kernel_rfl) rfl H rfl (fun w' H => r_ixS rfl rfl Tryz.underlying9 (by first | omega | (constructor <;> simp <;> omega))) ?_
          refine tkg (i := 20) rfl (by kernel_rfl) rfl H rfl (fun w' H => r_lss rfl rfl) ?_
          refine tk (i := 21) rfl (by kernel_rfl) rfl H (fun w' H => r_pkF (v := .bool _) rfl rfl) ?_
          refine tk (i := 22) rfl (by kernel_rfl) rfl H (fun w' H => r_mv (v := .bool _) rfl) ?_
          refine spad (t := 152) rfl (fun hg13 => ?_) (fun hg13 => ?_)
          ·refine tkn (i := 23) rfl (by kernel_rfl) rfl H rfl ?_
           refine tkn (i := 24) rfl (by kernel_rfl) rfl H rfl ?_
           refine tkn (i := 25) rfl (by kernel_rfl) rfl H rfl ?_
           refine tk (i := 26) rfl (by kernel_rfl) rfl H (fun w' H => r_pkT (v := .bool _) rfl rfl) ?_
           refine tk (i := 27) rfl (by kernel_rfl) rfl H (fun w' H => r_mv (v := .bool _) rfl) ?_
           refine tkn (i := 28) rfl (by kernel_rfl) rfl H rfl ?_
           refine tkn (i := 29) rfl (by kernel_rfl) rfl H rfl ?_
           refine tkn (i := 30) rfl (by kernel_rfl) rfl H rfl ?_
           refine tk (i := 31) rfl (by kernel_rfl) rfl H (fun w' H => r_pkT (v := .bool _) rfl rfl) ?_
           refine tk (i := 32) rfl (by kernel_rfl) rfl H (fun w' H => r_mv (v := .bool _) rfl) ?_
           refine tkn (i := 33) rfl (by kernel_rfl) rfl H rfl ?_
           refine tkn (i := 34) rfl (by kernel_rfl) rfl H rfl ?_
           refine tkn (i := 35) rfl (by kernel_rfl) rfl H rfl ?_
           refine tk (i := 36) rfl (by kernel_rfl) rfl H (fun w' H => r_pkT (v := .bool _) rfl rfl) ?_
           refine da (by kernel_rfl) ?_
           refine then_n ?_
           refine cbT rfl rfl ?_
           refine sq ?_
           refine rg ?_
           refine asg (v := .bool _) rfl rfl ?_
           refine nl ?_
           refine then_n ?_
           refine rt ?_
           refine then_r ?_
           refine in_r ?_
           refine in_r ?_
           refine loop_r ?_
           refine in_r ?_
           refine then_r ?_
           refine fin_r ?_
           exact ⟨_, rfl, H.fr⟩
          ·refine tkg (i := 23) rfl (by kernel_rfl) rfl H rfl (fun w' H => r_mv (v := .string _) rfl) ?_
           refine tkg (i := 24) rfl (by kernel_rfl) rfl H rfl (fun w' H => r_ixS rfl rfl Tryz.underlying9 (by first | omega | (constructor <;> simp <;> omega))) ?_
           refine tkg (i := 25) rfl (by kernel_rfl) rfl H rfl (fun w' H => r_lss rfl rfl) ?_
           refine tk (i := 26) rfl (by kernel_rfl) rfl H (fun w' H => r_pkF (v := .bool _) rfl rfl) ?_
           refine tk (i := 27) rfl (by kernel_rfl) rfl H (fun w' H => r_mv (v := .bool _) rfl) ?_
           refine spad (t := 157) rfl (fun hg14 => ?_) (fun hg14 => ?_)
           ·refine tkn (i := 28) rfl (by kernel_rfl) rfl H rfl ?_
            refine tkn (i := 29) rfl (by kernel_rfl) rfl H rfl ?_
            refine tkn (i := 30) rfl (by kernel_rfl) rfl H rfl ?_
            refine tk (i := 31) rfl (by kernel_rfl) rfl H (fun w' H => r_pkT (v := .bool _) rfl rfl) ?_
            refine tk (i := 32) rfl (by kernel_rfl) rfl H (fun w' H => r_mv (v := .bool _) rfl) ?_
            refine tkn (i := 33) rfl (by kernel_rfl) rfl H rfl ?_
            refine tkn (i := 34) rfl (by kernel_rfl) rfl H rfl ?_
            refine tkn (i := 35) rfl (by kernel_rfl) rfl H rfl ?_
            refine tk (i := 36) rfl (by kernel_rfl) rfl H (fun w' H => r_pkT (v := .bool _) rfl rfl) ?_
            refine da (by kernel_rfl) ?_
            refine then_n ?_
            refine cbT rfl rfl ?_
            refine sq ?_
            refine rg ?_
            refine asg (v := .bool _) rfl rfl ?_
            refine nl ?_
            refine then_n ?_
            refine rt ?_
            refine then_r ?_
            refine in_r ?_
            refine in_r ?_
            refine loop_r ?_
            refine in_r ?_
            refine then_r ?_
            refine fin_r ?_
            exact ⟨_, rfl, H.fr⟩
           ·refine tkg (i := 28) rfl (by kernel_rfl) rfl H rfl (fun w' H => r_mv (v := .string _) rfl) ?_
            refine tkg (i := 29) rfl (by kernel_rfl) rfl H rfl (fun w' H => r_ixS rfl rfl Tryz.underlying9 (by first | omega | (constructor <;> simp <;> omega))) ?_
            refine tkg (i := 30) rfl (by kernel_rfl) rfl H rfl (fun w' H => r_lss rfl rfl) ?_
            refine tk (i := 31) rfl (by kernel_rfl) rfl H (fun w' H => r_pkF (v := .bool _) rfl rfl) ?_
            refine tk (i := 32) rfl (by kernel_rfl) rfl H (fun w' H => r_mv (v := .bool _) rfl) ?_
            refine spad (t := 162) rfl (fun hg15 => ?_) (fun hg15 => ?_)
            ·refine tkn (i := 33) rfl (by kernel_rfl) rfl H rfl ?_
             refine tkn (i := 34) rfl (by kernel_rfl) rfl H rfl ?_
             refine tkn (i := 35) rfl (by kernel_rfl) rfl H rfl ?_
             refine tk (i := 36) rfl (by kernel_rfl) rfl H (fun w' H => r_pkT (v := .bool _) rfl rfl) ?_
             refine da (by kernel_rfl) ?_
             refine then_n ?_
             refine cbT rfl rfl ?_
             refine sq ?_
             refine rg ?_
             refine asg (v := .bool _) rfl rfl ?_
             refine nl ?_
             refine then_n ?_
             refine rt ?_
             refine then_r ?_
             refine in_r ?_
             refine in_r ?_
             refine loop_r ?_
             refine in_r ?_
             refine then_r ?_
             refine fin_r ?_
             exact ⟨_, rfl, H.fr⟩
            ·refine tkg (i := 33) rfl (by kernel_rfl) rfl H rfl (fun w' H => r_mv (v := .string _) rfl) ?_
             refine tkg (i := 34) rfl (by kernel_rfl) rfl H rfl (fun w' H => r_ixS rfl rfl Tryz.underlying9 (by first | omega | (constructor <;> simp <;> omega))) ?_
             refine tkg (i := 35) rfl (by kernel_rfl) rfl H rfl (fun w' H => r_lss rfl rfl) ?_
             refine tk (i := 36) rfl (by kernel_rfl) rfl H (fun w' H => r_pkF (v := .bool _) rfl rfl) ?_
             refine da (by kernel_rfl) ?_
             refine then_n ?_
             refine cd rfl (fun hc11 => ?_) (fun hc11 => ?_)
             ·refine sq ?_
              refine rg ?_
              refine asg (v := .bool _) rfl rfl ?_
              refine nl ?_
              refine then_n ?_
              refine rt ?_
              refine then_r ?_
              refine in_r ?_
              refine in_r ?_
              refine loop_r ?_
              refine in_r ?_
              refine then_r ?_
              refine fin_r ?_
              exact ⟨_, rfl, H.fr⟩
             ·refine sk ?_
              refine then_n ?_
              refine rg ?_
              refine mv (v := .string _) rfl rfl ?_
              refine slTl rfl rfl Tryz.underlying9 (by first | trivial | omega | (simp; omega)) rfl ?_
              refine asg (v := .string _) rfl rfl ?_
              refine nl ?_
              refine in_n ?_
              refine in_n ?_
              refine loop_n ?_
              exact ⟨List.drop (Int.toNat 4) l, (by (try dsimp only); simp <;> omega), ⟨by simp <;> omega, H.subX⟩, (fCX (fN _)), agX⟩
      ·refine sq ?_
       refine rg ?_
       refine asg (v := .bool _) rfl rfl ?_
       refine nl ?_
       refine then_n ?_
       refine rt ?_
       refine in_r ?_
       refine in_r ?_
       refine loop_r ?_
       refine in_r ?_
       refine then_r ?_
       refine fin_r ?_
       exact ⟨_, rfl, H.fr⟩
  ·refine ex ?_
   refine then_e ?_
   refine loop_e ?_
   refine in_hit rfl ?_
   refine then_n ?_
   refine sq ?_
   refine rg ?_
   refine asg (v := .bool _) rfl rfl ?_
   refine nl ?_
   refine then_n ?_
   refine rt ?_
   refine fin_r ?_
   exact ⟨_, rfl, H.fr⟩
end Go.Proofs.YthcaejaaalkglaaGreatDoor.X
/- A byte of a table that stands on a disk is spoilt. -/
namespace Go.Proofs.YthcaejaaalkglaaGreatDoor.X
set_option linter.unusedVariables false
set_option linter.unusedSimpArgs false
open Go
theorem pcs_set_out {ds : List UInt8} {q p k : Nat} {c : UInt8} (h : q < p ∨ p + k ≤ q) : pcs (ds.set q c) p k = pcs ds p k := by
 refine List.ext_getElem? fun i => ?_
 simp only [pcs, List.getElem?_take, List.getElem?_drop]
 split
 ·rw [List.getElem?_set_ne (by omega)]
 ·rfl
theorem pcs_set_in {ds : List UInt8} {q p k : Nat} {c : UInt8} (h : p ≤ q) : pcs (ds.set q c) p k = (pcs ds p k).set (q - p) c := by
 unfold pcs
 rw [List.drop_set, if_neg (by omega), List.take_set]
theorem fld_set_out {ds : List UInt8} {q p k : Nat} {c : UInt8} (h : q < p ∨ p + k ≤ q) : fld (ds.set q c) p k = fld ds p k := by
 unfold fld; rw [pcs_set_out h]
theorem leV_inj : ∀ {a b : List UInt8}, a.length = b.length → leV a = leV b → a = b
 | [], [], _, _ => rfl
 | [], y :: s, h, _ => by simp at h
 | x :: r, [], h, _ => by simp at h
 | x :: r, y :: s, h, e => by
  have h1 : leV (x :: r) = (x.toNat : Int) + 256 * leV r := rfl
  have h2 : leV (y :: s) = (y.toNat : Int) + 256 * leV s := rfl
  have hx := x.toNat_lt
  have hy := y.toNat_lt
  rw [h1, h2] at e
  have e1 : x.toNat = y.toNat := by omega
  have e2 : leV r = leV s := by omega
  rw [UInt8.toNat_inj.1 e1, leV_inj (by simpa using h) e2]
theorem set_ne {l : List UInt8} {i : Nat} {c : UInt8} (hi : i < l.length) (hc : l[i]? ≠ some c) : l.set i c ≠ l := by
 intro e
 have := congrArg (fun m => m[i]?) e
 simp only [List.getElem?_set_self hi] at this
 exact hc this.symm
theorem pcs_at {ds : List UInt8} {p k i : Nat} (h : i < k) : (pcs ds p k)[i]? = ds[p + i]? := by
 simp [pcs, List.getElem?_take, List.getElem?_drop, h]
theorem zHdr_set_in {l : List UInt8} {i : Nat} {c : UInt8} (hl : l.length = 92) (h : 16 ≤ i ∧ i < 20) : zHdr (l.set i c) = zHdr l := by
 unfold zHdr pAt
 rw [List.take_set_of_le (by omega), List.drop_set, if_pos (by simp; omega)]
theorem zHdr_set_out {l : List UInt8} {i : Nat} {c : UInt8} (hl : l.length = 92) (hi : i < 92) (h : i < 16 ∨ 20 ≤ i) : zHdr (l.set i c) = (zHdr l).set i c ∧ (zHdr l)[i]? = l[i]? := by
 have e : zHdr l = l.take 16 ++ ([0, 0, 0, 0] ++ l.drop 20) := by unfold zHdr pAt; simp only [List.append_assoc, List.length_cons, List.length_nil]
 have e2 : zHdr (l.set i c) = (l.set i c).take 16 ++ ([0, 0, 0, 0] ++ (l.set i c).drop 20) := by unfold zHdr pAt; simp only [List.append_assoc, List.length_cons, List.length_nil]
 rw [e, e2]
 rcases h with h | h
 ·refine ⟨?_, ?_⟩
  ·rw [List.take_set, List.drop_set, if_pos (by omega), List.set_append_left _ _ (by simp; omega)]
  ·rw [List.getElem?_append_left (by simp; omega), List.getElem?_take, if_pos h]
 ·refine ⟨?_, ?_⟩
  ·rw [List.take_set_of_le (by omega), List.drop_set, if_neg (by omega), List.set_append_right _ _ (by simp; omega), List.set_append_right _ _ (by simp; omega)]
   congr 3
   simp only [List.length_take, List.length_cons, List.length_nil]; omega
  ·rw [List.getElem?_append_right (by simp; omega), List.getElem?_append_right (by simp; omega), List.getElem?_drop]
   congr 1
   simp only [List.length_take, List.length_cons, List.length_nil]; omega
theorem hdr_spoil {ds : List UInt8} {A q : Nat} {c : UInt8} (hA : A + 92 ≤ ds.length) (hq : A ≤ q ∧ q < A + 92) (hc : ds[q]? ≠ some c) (hk : crcOk ds A = true) : crcOk (ds.set q c) A = false := by
 have hl : (pcs ds A 92).length = 92 := pcs_len hA
 have hk' : crc32 (zHdr (pcs ds A 92)) = fld ds (A + 16) 4 := of_decide_eq_true hk
 have hat : (pcs ds A 92)[q - A]? ≠ some c := by rw [pcs_at (by omega), show A + (q - A) = q by omega]; exact hc
 unfold crcOk
 rw [pcs_set_in hq.1]
 refine decide_eq_false fun e => ?_
 by_cases h : 16 ≤ q - A ∧ q - A < 20
 ·rw [zHdr_set_in hl h, hk'] at e
  unfold fld at e
  have h4 : (pcs ds (A + 16) 4).length = 4 := pcs_len (by omega)
  have e2 := leV_inj (by rw [h4, pcs_set_in (by omega), List.length_set, h4]) e
  rw [pcs_set_in (by omega)] at e2
  refine set_ne (i := q - (A + 16)) (c := c) (by rw [h4]; omega) ?_ e2.symm
  rw [pcs_at (by omega), show A + 16 + (q - (A + 16)) = q by omega]; exact hc
 ·obtain ⟨z1, z2⟩ := zHdr_set_out (c := c) hl (i := q - A) (by omega) (by omega)
  rw [z1, fld_set_out (by omega), ← hk'] at e
  exact crc32_set (by rw [zHdr_len hl]; omega) (by rw [z2]; exact hat) e
theorem arr_spoil {ds : List UInt8} {R k q : Nat} {c : UInt8} (hR : R + k ≤ ds.length) (hq : R ≤ q ∧ q < R + k) (hc : ds[q]? ≠ some c) : crc32 (pcs (ds.set q c) R k) ≠ crc32 (pcs ds R k) := by
 rw [pcs_set_in hq.1]
 exact crc32_set (by rw [pcs_len hR]; omega) (by rw [pcs_at (by omega), show R + (q - R) = q by omega]; exact hc)
theorem hdr_out {ds : List UInt8} {A q : Nat} {c : UInt8} (h : q < A ∨ A + 92 ≤ q) : hdrGood (ds.set q c) A = hdrGood ds A ∧ sigOk (ds.set q c) A = sigOk ds A ∧ crcOk (ds.set q c) A = crcOk ds A := by
 have h1 : sigOk (ds.set q c) A = sigOk ds A := by unfold sigOk; rw [pcs_set_out (by omega)]
 have h2 : crcOk (ds.set q c) A = crcOk ds A := by unfold crcOk; rw [pcs_set_out (by omega), fld_set_out (by omega)]
 refine ⟨?_, h1, h2⟩
 unfold hdrGood
 rw [h1, h2, pcs_set_out (by omega), pcs_set_out (by omega), pcs_set_out (by omega)]
theorem fits_out {ds : List UInt8} {A q : Nat} {c : UInt8} (h : q < A ∨ A + 92 ≤ q) : fitsB (ds.set q c) 512 A = fitsB ds 512 A := by
 obtain ⟨h1, h2, h3⟩ := hdr_out (ds := ds) (c := c) h
 unfold fitsB
 rw [h2, h3, fld_set_out (by omega), fld_set_out (by omega), fld_set_out (by omega)]
theorem spoil {ds : List UInt8} {A R q : Nat} {c : UInt8} (hA : A + 92 ≤ ds.length) (hR : R + 16384 ≤ ds.length) (hd : A + 92 ≤ R ∨ R + 16384 ≤ A) (hq : (A ≤ q ∧ q < A + 92) ∨ (R ≤ q ∧ q < R + 16384)) (hc : ds[q]? ≠ some c) (hk : crcOk ds A = true) (hs : fld ds (A + 88) 4 = crc32 (pcs ds R 16384)) :
  (hdrGood (ds.set q c) A = false ∨ fld (ds.set q c) (A + 88) 4 ≠ crc32 (pcs (ds.set q c) R 16384)) ∧
  (hdrGood (ds.set q c) A = true → hdrGood ds A = true ∧ (∀ p k, A ≤ p → p + k ≤ A + 92 → fld (ds.set q c) p k = fld ds p k)) ∧
  (fitsB ds 512 A = true → fitsB (ds.set q c) 512 A = true) := by
 rcases hq with hq | hq
 ·have h1 := hdr_spoil hA hq hc hk
  have h2 : hdrGood (ds.set q c) A = false := by unfold hdrGood; rw [h1, Bool.and_false]
  refine ⟨.inl h2, fun h => by rw [h2] at h; exact Bool.noConfusion h, fun _ => ?_⟩
  unfold fitsB; rw [h1]; simp
 ·have ho : q < A ∨ A + 92 ≤ q := by omega
  refine ⟨.inr ?_, fun h => ⟨by rw [← (hdr_out ho).1]; exact h, fun p k h1 h2 => fld_set_out (by omega)⟩, fun h => by rw [fits_out ho]; exact h⟩
  rw [fld_set_out (by omega), hs]
  exact fun e => arr_spoil hR hq hc e.symm
end Go.Proofs.YthcaejaaalkglaaGreatDoor.X
/- The conditions under which a table may stand on a disk. -/
namespace Go.Proofs.YthcaejaaalkglaaGreatDoor.X
set_option linter.unusedVariables false
open Go
theorem pair_of_next {ps : List GP} (h : ∀ j q r, ps[j]? = some q → ps[j + 1]? = some r → q.ix < r.ix) : ps.Pairwise (fun x y => x.ix < y.ix) := by
 have key : ∀ (k j : Nat) (q r : GP), ps[j]? = some q → ps[j + 1 + k]? = some r → q.ix < r.ix := by
  intro k
  induction k with
  | zero => intro j q r h1 h2; exact h j q r h1 h2
  | succ k ih =>
   intro j q r h1 h2
   have hl := (List.getElem?_eq_some_iff.1 h2).1
   obtain ⟨x, hx⟩ : ∃ x, ps[j + 1 + k]? = some x := ⟨_, List.getElem?_eq_getElem (by omega)⟩
   exact Int.lt_trans (ih j q x h1 hx) (h _ x r hx h2)
 rw [List.pairwise_iff_getElem]
 intro i j hi hj hij
 exact key (j - (i + 1)) i _ _ (List.getElem?_eq_getElem hi) (by rw [show i + 1 + (j - (i + 1)) = j by omega]; exact List.getElem?_eq_getElem hj)
def ordTo (ps : List GP) (i : Nat) : Prop := ∀ j q r, j + 1 < i → ps[j]? = some q → ps[j + 1]? = some r → q.ix < r.ix
theorem ordTo_next {ps : List GP} {i : Nat} {p : GP} (h : ordTo ps i) (hp : ps[i]? = some p) (hl : ∀ q, 0 < i → ps[i - 1]? = some q → q.ix < p.ix) : ordTo ps (i + 1) := fun j q r hj h1 h2 => by
 rcases Nat.lt_or_ge (j + 1) i with h3 | h3
 ·exact h j q r h3 h1 h2
 ·obtain rfl : i = j + 1 := by omega
  rw [hp] at h2; cases h2
  exact hl q (by omega) (by simpa using h1)
theorem ordTo_all {ps : List GP} {i : Nat} (hl : ps.length ≤ i) (h : ordTo ps i) : ps.Pairwise (fun x y => x.ix < y.ix) := pair_of_next fun j q r h1 h2 => h j q r (by have := (List.getElem?_eq_some_iff.1 h2).1; omega) h1 h2
theorem okN_nil : okN [] := fun c hc => by rw [runes_nil] at hc; exact absurd hc (by simp)
theorem okN_step {bs : List UInt8} {pos : Nat} (h : pos < bs.length) (h0 : (rune1 (bs.drop pos)).1 ≠ 0) (h1 : (rune1 (bs.drop pos)).1 ≠ 65533) (hk : okN (bs.drop (pos + (rune1 (bs.drop pos)).2))) : okN (bs.drop pos) := fun c hc => by
 rw [runes_at h] at hc
 rcases List.mem_cons.1 hc with rfl | hc
 ·exact ⟨h0, h1⟩
 ·exact hk c hc
theorem okN_end {bs : List UInt8} {pos : Nat} (h : ¬ pos < bs.length) (hk : okN (bs.drop pos) → okN bs) : okN bs := hk (by rw [List.drop_of_length_le (by omega)]; exact okN_nil)
end Go.Proofs.YthcaejaaalkglaaGreatDoor.X
/- Walks of functions, printed by a program of this claim. -/
namespace Go.Proofs.YthcaejaaalkglaaGreatDoor.X
set_option linter.unusedVariables false
set_option linter.unusedSimpArgs false
open Go Go.RowKit
namespace PF
theorem ca24 : callable Tryz.prog 24 = true := by kernel_rfl
theorem ca25 : callable Tryz.prog 25 = true := by kernel_rfl
end PF
open PF
set_option maxRecDepth 100000 in
set_option maxHeartbeats 4000000 in
theorem c_good (w : World) (D : Option Addr) (m c : Nat) (g : List UInt8) (pr rc : Bool) (ps : List GP) (hq : RG w D m c ps) (hU : Utf8W w) (n : Nat) (hn : 80 ≤ n ∧ n ≤ 1000000) (hft : ∀ p ∈ ps, p.fit) : Calls Tryz.prog 9 #[.agg (gtCells D m c 512 g pr rc).toArray, .int .u64 (n : Int)] w (Ret fun v w' => ∃ b, v = .bool b ∧ Fr [] w w' ∧ (b = true → gOk g = true ∧ m ≤ 128 ∧ goodL n ps)) := by
 refine enter (fun ρ => ρ 4) Tryz.func9 rfl rfl rfl (res1 rfl) ?_
 have H := SH.nil w
 have hql := hq.len
 have hcap : c ≤ 9223372036854775807 := by have := hq.cap.2; unfold maxLen at this; omega
 have hcap1 := hq.cap.1
 refine sq ?_
 refine rg ?_
 refine bx (v := .agg _) H rfl rfl rfl ?_
 clear H; intro b1 w1 hb1 H _
 refine asg (v := .bool _) rfl rfl ?_
 refine nl ?_
 refine then_n ?_
 refine sq ?_
 refine rg ?_
 refine fa rfl fo24_1 rfl ?_
 refine ld H rfl sc3 rfl rfl ?_
 refine cl ca21 (c_tabSectors _) rfl ?_
 rintro _ w2 ⟨rfl, F⟩
 replace H := H.keep F; clear F
 refine asg (v := .int .u64 _) rfl rfl ?_
 refine nl ?_
 refine then_n ?_
 refine sq ?_
 refine sq ?_
 refine rg ?_
 refine fa rfl fo24_2 rfl ?_
 refine ld H rfl sc9 rfl rfl ?_
 refine cl ca22 (c_guidBytes _ _) rfl ?_
 rintro _ w3 ⟨rfl, F⟩
 replace H := H.keep F; clear F
 refine mv (v := .tuple _) rfl rfl ?_
 refine xt rfl rfl rfl ?_
 refine xt rfl rfl rfl ?_
 refine al H ze50 rfl ?_
 clear H; intro b2 w4 hb2 H _
 refine sa (cs' := Bs (gB g)) H rfl rfl ag50_16 (by rw [Bs_length, gB_len]) (List.all_eq_true.2 Bs_one) (by decide) (by omega) (List.append_nil _) ?_
 clear H; intro w91 H _
 refine asg (v := .bool _) rfl rfl ?_
 refine nl ?_
 refine then_n ?_
 refine sq ?_
 refine rg ?_
 refine mv (v := .bool _) rfl rfl ?_
 refine unot rfl rfl ?_
 refine mv (v := .bool _) rfl rfl ?_
 refine sp (t := 29) rfl (fun hg1 => ?_) (fun hg1 => ?_)
 ·refine gn rfl rfl ?_
  refine gn rfl rfl ?_
  refine gn rfl rfl ?_
  refine pkT (v := .bool _) rfl rfl rfl ?_
  refine mv (v := .bool _) rfl rfl ?_
  refine gn rfl rfl ?_
  refine gn rfl rfl ?_
  refine gn rfl rfl ?_
  refine gn rfl rfl ?_
  refine gn rfl rfl ?_
  refine pkT (v := .bool _) rfl rfl rfl ?_
  refine mv (v := .bool _) rfl rfl ?_
  refine gn rfl rfl ?_
  refine gn rfl rfl ?_
  refine gn rfl rfl ?_
  refine gn rfl rfl ?_
  refine pkT (v := .bool _) rfl rfl rfl ?_
  refine nl ?_
  refine then_n ?_
  refine cbT rfl rfl ?_
  refine sq ?_
  refine rg ?_
  refine asg (v := .bool _) rfl rfl ?_
  refine nl ?_
  refine then_n ?_
  refine rt ?_
  refine then_r ?_
  refine fin_r ?_
  exact ⟨false, rfl, H.fr, fun h => by exact Bool.noConfusion h⟩
 ·refine gy rfl ?_
  refine fa rfl fo24_1 rfl ?_
  refine gy rfl ?_
  refine ld H rfl sc3 rfl rfl ?_
  refine gy rfl ?_
  refine lss rfl rfl rfl ?_
  refine pkF (v := .bool _) rfl rfl rfl ?_
  refine mv (v := .bool _) rfl rfl ?_
  refine spd (t := 34) rfl (fun hg2 => ?_) (fun hg2 => ?_)
  ·refine gn rfl rfl ?_
   refine gn rfl rfl ?_
   refine gn rfl rfl ?_
   refine gn rfl rfl ?_
   refine gn rfl rfl ?_
   refine pkT (v := .bool _) rfl rfl rfl ?_
   refine mv (v := .bool _) rfl rfl ?_
   refine gn rfl rfl ?_
   refine gn rfl rfl ?_
   refine gn rfl rfl ?_
   refine gn rfl rfl ?_
   refine pkT (v := .bool _) rfl rfl rfl ?_
   refine nl ?_
   refine then_n ?_
   refine cbT rfl rfl ?_
   refine sq ?_
   refine rg ?_
   refine asg (v := .bool _) rfl rfl ?_
   refine nl ?_
   refine then_n ?_
   refine rt ?_
   refine then_r ?_
   refine fin_r ?_
   exact ⟨false, rfl, H.fr, fun h => by exact Bool.noConfusion h⟩
  ·refine gy rfl ?_
   refine mv (v := .int .u64 _) rfl rfl ?_
   refine gy rfl ?_
   refine mv (v := .int .u64 _) rfl rfl ?_
   refine gy rfl ?_
   refine mul rfl rfl (by first | exact w_u64 (by omega) | exact w_u64 (rng_u64 _) | exact m_u64 _) rfl ?_
   refine gy rfl ?_
   refine add rfl rfl (by first | exact w_u64 (by omega) | exact w_u64 (rng_u64 _) | exact m_u64 _) rfl ?_
   refine gy rfl ?_
   refine lss rfl rfl rfl ?_
   refine pkF (v := .bool _) rfl rfl rfl ?_
   refine mv (v := .bool _) rfl rfl ?_
   refine spd (t := 41) rfl (fun hg3 => ?_) (fun hg3 => ?_)
   ·refine gn rfl rfl ?_
    refine gn rfl rfl ?_
    refine gn rfl rfl ?_
    refine gn rfl rfl ?_
    refine pkT (v := .bool _) rfl rfl rfl ?_
    refine nl ?_
    refine then_n ?_
    refine cbT rfl rfl ?_
    refine sq ?_
    refine rg ?_
    refine asg (v := .bool _) rfl rfl ?_
    refine nl ?_
    refine then_n ?_
    refine rt ?_
    refine then_r ?_
    refine fin_r ?_
    exact ⟨false, rfl, H.fr, fun h => by exact Bool.noConfusion h⟩
   ·refine gy rfl ?_
    refine fa rfl fo24_0 rfl ?_
    refine gy rfl ?_
    refine ld H rfl sc22 rfl rfl ?_
    refine gy rfl ?_
    refine lnS rfl Tryz.underlying22 rfl ?_
    refine gy rfl ?_
    refine gtr rfl rfl rfl ?_
    refine pkF (v := .bool _) rfl rfl rfl ?_
    refine nl ?_
    refine then_n ?_
    refine cd rfl (fun hc1 => ?_) (fun hc1 => ?_)
    ·refine sq ?_
     refine rg ?_
     refine asg (v := .bool _) rfl rfl ?_
     refine nl ?_
     refine then_n ?_
     refine rt ?_
     refine then_r ?_
     refine fin_r ?_
     exact ⟨false, rfl, H.fr, fun h => by exact Bool.noConfusion h⟩
    ·refine sk ?_
     refine then_n ?_
     refine sq ?_
     refine sq ?_
     refine rg ?_
     refine fa rfl fo24_0 rfl ?_
     refine ld H rfl sc22 rfl rfl ?_
     refine lnS rfl Tryz.underlying22 rfl ?_
     refine mv (v := .int .i64 _) rfl rfl ?_
     refine nl ?_
     refine then_n ?_
     refine bk ?_
     refine lpM (α := Nat) [4, 8, 9, 10, 11, 12, 13, 15, 17, 50, 51, 52, 53, 54, 55, 56, 57, 58, 59, 60, 61, 62, 63, 64, 65, 66, 67, 68, 69, 70, 71, 72, 73, 74, 75, 76, 77, 78, 79, 80, 81, 82, 83, 84, 85, 86, 87, 88, 89, 90, 91, 92, 93, 94, 95, 96, 97, 98, 99, 100, 101, 102, 103, 104, 105, 106, 107, 108, 109, 110, 111, 112, 113, 114, 115, 116, 117, 118, 119, 120, 121, 122, 123, 124, 125, 126, 127, 128, 129, 130, 131, 132, 133, 134, 135, 136, 137, 138, 139, 140, 141, 142, 143, 144, 145, 146, 147, 148, 149, 150, 151, 152, 153, 154, 155, 156, 157, 158, 159, 160, 161, 162, 163, 164, 165, 166, 167, 168, 169, 170, 171, 172, 173, 174, 175, 176, 177, 178, 179, 180, 181, 182, 183, 184, 185, 186, 187, 188, 189, 190, 191, 192, 193, 194, 195, 196, 197, 198] (fun i => [(50, .int .i64 (i : Int))]) (fun i w' => i ≤ m ∧ (∀ j q, j < i → ps[j]? = some q → q.good n) ∧ ordTo ps i ∧ SH w [] w' [⟨b2, .cells (Bs (gB g)).toArray 50 (0, 0), true⟩, ⟨b1, .cells (gtCells D m c 512 g pr rc).toArray 24 (0, 0), true⟩]) (fun i => m - i) 0 ?_ (fCX (fN _)) ?_
     ·exact ⟨by omega, fun j p hj => by omega, fun j q r hj => by omega, H⟩
     ·rintro i ρx w5 ⟨hi, hs, ho, H⟩
      refine sq ?_
      refine rg ?_
      refine lss rfl rfl rfl ?_
      refine nl ?_
      refine then_n ?_
      refine sq ?_
      refine cd rfl (fun hc2 => ?_) (fun hc2 => ?_)
      ·obtain ⟨p, hpi⟩ : ∃ p, ps[i]? = some p := ⟨_, List.getElem?_eq_getElem (by omega)⟩
       obtain ⟨ad, rfl⟩ := hq.some_of (by omega)
       have hpm := List.mem_of_getElem? hpi
       obtain ⟨o1, o2, o3, o4, o5⟩ := hq.ok p hpm
       have hnl := (hft p hpm).nm
       refine sk ?_
       refine then_n ?_
       refine sq ?_
       refine bk ?_
       refine sq ?_
       refine rg ?_
       refine mv (v := .int .i64 _) rfl rfl ?_
       refine iBN (ad.add (i * 8)) rfl rfl Tryz.underlying22 sz54_8 (by omega) (by simp) rfl ?_
       refine lw (vs := p.cells) rfl ag54_8 rfl (fun j v h => H.fr.cell (hq.elem hpi j v h) (by simp)) rfl ?_
       refine al H ze54 rfl ?_
       clear H; intro b3 w6 hb3 H _
       refine asg (v := .int .i64 _) rfl rfl ?_
       refine sa (cs' := p.cells) H rfl rfl ag54_8 rfl rfl (by decide) (by omega) rfl ?_
       clear H; intro w35 H _
       refine nl ?_
       refine then_n ?_
       refine sq ?_
       refine rg ?_
       refine fa rfl fo54_4 rfl ?_
       refine ld H rfl sc9 rfl rfl ?_
       refine cl ca22 (c_guidBytes _ _) rfl ?_
       rintro _ w7 ⟨rfl, F⟩
       replace H := H.keep F; clear F
       refine mv (v := .tuple _) rfl rfl ?_
       refine xt rfl rfl rfl ?_
       refine xt rfl rfl rfl ?_
       refine al H ze50 rfl ?_
       clear H; intro b4 w8 hb4 H _
       refine sa (cs' := Bs (gB p.ty)) H rfl rfl ag50_16 (by rw [Bs_length, gB_len]) (List.all_eq_true.2 Bs_one) (by decide) (by omega) (List.append_nil _) ?_
       clear H; intro w92 H _
       refine asg (v := .bool _) rfl rfl ?_
       refine nl ?_
       refine then_n ?_
       refine sq ?_
       refine rg ?_
       refine fa rfl fo54_6 rfl ?_
       refine ld H rfl sc9 rfl rfl ?_
       refine cl ca22 (c_guidBytes _ _) rfl ?_
       rintro _ w9 ⟨rfl, F⟩
       replace H := H.keep F; clear F
       refine mv (v := .tuple _) rfl rfl ?_
       refine xt rfl rfl rfl ?_
       refine xt rfl rfl rfl ?_
       refine al H ze50 rfl ?_
       clear H; intro b5 w10 hb5 H _
       refine sa (cs' := Bs (gB p.gu)) H rfl rfl ag50_16 (by rw [Bs_length, gB_len]) (List.all_eq_true.2 Bs_one) (by decide) (by omega) (List.append_nil _) ?_
       clear H; intro w93 H _
       refine asg (v := .bool _) rfl rfl ?_
       refine nl ?_
       refine then_n ?_
       refine ctM (α := Unit) [4, 67, 68, 69, 70, 71, 72, 73, 74, 75, 76, 77, 78, 79, 80, 81, 82, 83, 84, 85, 86, 87, 88, 89, 90, 91, 92, 93, 94, 95, 96, 97, 98, 99, 100, 101, 102, 103, 104, 105, 106, 107, 108, 109, 110, 111, 112, 113, 114, 115, 116, 117, 118, 119, 120] (fun _u => []) (fun _u w' => (gOk p.ty = true ∧ gOk p.gu = true ∧ sameG p.ty zG = false ∧ sameG p.gu zG = false ∧ (utf16 p.nm).length ≤ 36 ∧ (1 ≤ p.ix ∧ p.ix ≤ 128) ∧ (∀ q, 0 < i → ps[i - 1]? = some q → q.ix < p.ix)) ∧ SH w [] w' [⟨b5, .cells (Bs (gB p.gu)).toArray 50 (0, 0), true⟩, ⟨b4, .cells (Bs (gB p.ty)).toArray 50 (0, 0), true⟩, ⟨b3, .cells p.cells.toArray 54 (0, 0), true⟩, ⟨b2, .cells (Bs (gB g)).toArray 50 (0, 0), true⟩, ⟨b1, .cells (gtCells (some ad) m c 512 g pr rc).toArray 24 (0, 0), true⟩]) ?_ ?_
       ·refine sq ?_
        refine dr (by kernel_rfl) ?_
        have H := H.drew
        refine holdH H [] ?_
        refine tk (i := 0) rfl (by kernel_rfl) rfl H (fun w' H => r_mv (v := .bool _) rfl) ?_
        refine tk (i := 1) rfl (by kernel_rfl) rfl H (fun w' H => r_unot rfl) ?_
        refine tk (i := 2) rfl (by kernel_rfl) rfl H (fun w' H => r_mv (v := .bool _) rfl) ?_
        refine spa (t := 69) rfl (fun hg4 => ?_) (fun hg4 => ?_)
        ·refine tkn (i := 3) rfl (by kernel_rfl) rfl H rfl ?_
         refine tkn (i := 4) rfl (by kernel_rfl) rfl H rfl ?_
         refine tk (i := 5) rfl (by kernel_rfl) rfl H (fun w' H => r_pkT (v := .bool _) rfl rfl) ?_
         refine tk (i := 6) rfl (by kernel_rfl) rfl H (fun w' H => r_mv (v := .bool _) rfl) ?_
         refine tkn (i := 7) rfl (by kernel_rfl) rfl H rfl ?_
         refine tkn (i := 8) rfl (by kernel_rfl) rfl H rfl ?_
         refine tkn (i := 9) rfl (by kernel_rfl) rfl H rfl ?_
         refine tk (i := 10) rfl (by kernel_rfl) rfl H (fun w' H => r_pkT (v := .bool _) rfl rfl) ?_
         refine tk (i := 11) rfl (by kernel_rfl) rfl H (fun w' H => r_mv (v := .bool _) rfl) ?_
         refine tkn (i := 12) rfl (by kernel_rfl) rfl H rfl ?_
         refine tkn (i := 13) rfl (by kernel_rfl) rfl H rfl ?_
         refine tkn (i := 14) rfl (by kernel_rfl) rfl H rfl ?_
         refine tk (i := 15) rfl (by kernel_rfl) rfl H (fun w' H => r_pkT (v := .bool _) rfl rfl) ?_
         refine tk (i := 16) rfl (by kernel_rfl) rfl H (fun w' H => r_mv (v := .bool _) rfl) ?_
         refine tkn (i := 17) rfl (by kernel_rfl) rfl H rfl ?_
         refine tkn (i := 18) rfl (by kernel_rfl) rfl H rfl ?_
         refine tkn (i := 19) rfl (by kernel_rfl) rfl H rfl ?_
         refine tkn (i := 20) rfl (by kernel_rfl) rfl H rfl ?_
         refine tk (i := 21) rfl (by kernel_rfl) rfl H (fun w' H => r_pkT (v := .bool _) rfl rfl) ?_
         refine tk (i := 22) rfl (by kernel_rfl) rfl H (fun w' H => r_mv (v := .bool _) rfl) ?_
         refine tkn (i := 23) rfl (by kernel_rfl) rfl H rfl ?_
         refine tkn (i := 24) rfl (by kernel_rfl) rfl H rfl ?_
         refine tkn (i := 25) rfl (by kernel_rfl) rfl H rfl ?_
         refine tkn (i := 26) rfl (by kernel_rfl) rfl H rfl ?_
         refine tk (i := 27) rfl (by kernel_rfl) rfl H (fun w' H => r_pkT (v := .bool _) rfl rfl) ?_
         refine tk (i := 28) rfl (by kernel_rfl) rfl H (fun w' H => r_mv (v := .bool _) rfl) ?_
         refine tkn (i := 29) rfl (by kernel_rfl) rfl H rfl ?_
         refine tkn (i := 30) rfl (by kernel_rfl) rfl H rfl ?_
         refine tkn (i := 31) rfl (by kernel_rfl) rfl H rfl ?_
         refine tk (i := 32) rfl (by kernel_rfl) rfl H (fun w' H => r_pkT (v := .bool _) rfl rfl) ?_
         refine tk (i := 33) rfl (by kernel_rfl) rfl H (fun w' H => r_mv (v := .bool _) rfl) ?_
         refine tkn (i := 34) rfl (by kernel_rfl) rfl H rfl ?_
         refine tkn (i := 35) rfl (by kernel_rfl) rfl H rfl ?_
         refine tkn (i := 36) rfl (by kernel_rfl) rfl H rfl ?_
         refine tk (i := 37) rfl (by kernel_rfl) rfl H (fun w' H => r_pkT (v := .bool _) rfl rfl) ?_
         refine tk (i := 38) rfl (by kernel_rfl) rfl H (fun w' H => r_mv (v := .bool _) rfl) ?_
         refine tkn (i := 39) rfl (by kernel_rfl) rfl H rfl ?_
         refine tkn (i := 40) rfl (by kernel_rfl) rfl H rfl ?_
         refine tkn (i := 41) rfl (by kernel_rfl) rfl H rfl ?_
         refine tknU (i := 42) rfl (by kernel_rfl) rfl H rfl ?_
         refine tknU (i := 43) rfl (by kernel_rfl) rfl H rfl ?_
         refine tknU (i := 44) rfl (by kernel_rfl) rfl H rfl ?_
         refine tknU (i := 45) rfl (by kernel_rfl) rfl H rfl ?_
         refine tknU (i := 46) rfl (by kernel_rfl) rfl H rfl ?_
         refine tknU (i := 47) rfl (by kernel_rfl) rfl H rfl ?_
         refine tknU (i := 48) rfl (by kernel_rfl) rfl H rfl ?_
         refine tknU (i := 49) rfl (by kernel_rfl) rfl H rfl ?_
         refine tknU (i := 50) rfl (by kernel_rfl) rfl H rfl ?_
         refine tknU (i := 51) rfl (by kernel_rfl) rfl H rfl ?_
         refine tkn (i := 52) rfl (by kernel_rfl) rfl H rfl ?_
         refine tk (i := 53) rfl (by kernel_rfl) rfl H (fun w' H => r_pkT (v := .bool _) rfl rfl) ?_
         refine da (by kernel_rfl) ?_
         refine then_n ?_
         refine cbT rfl rfl ?_
         refine sq ?_
         refine rg ?_
         refine asg (v := .bool _) rfl rfl ?_
         refine nl ?_
         refine then_n ?_
         refine rt ?_
         refine then_r ?_
         refine in_r ?_
         refine then_r ?_
         refine loop_r ?_
         refine in_r ?_
         refine then_r ?_
         refine fin_r ?_
         exact ⟨false, rfl, H.fr, fun h => by exact Bool.noConfusion h⟩
        ·refine tkg (i := 3) rfl (by kernel_rfl) rfl H rfl (fun w' H => r_mv (v := .bool _) rfl) ?_
         refine tkg (i := 4) rfl (by kernel_rfl) rfl H rfl (fun w' H => r_unot rfl) ?_
         refine tk (i := 5) rfl (by kernel_rfl) rfl H (fun w' H => r_pkF (v := .bool _) rfl rfl) ?_
         refine tk (i := 6) rfl (by kernel_rfl) rfl H (fun w' H => r_mv (v := .bool _) rfl) ?_
         refine spa (t := 73) rfl (fun hg5 => ?_) (fun hg5 => ?_)
         ·refine tkn (i := 7) rfl (by kernel_rfl) rfl H rfl ?_
          refine tkn (i := 8) rfl (by kernel_rfl) rfl H rfl ?_
          refine tkn (i := 9) rfl (by kernel_rfl) rfl H rfl ?_
          refine tk (i := 10) rfl (by kernel_rfl) rfl H (fun w' H => r_pkT (v := .bool _) rfl rfl) ?_
          refine tk (i := 11) rfl (by kernel_rfl) rfl H (fun w' H => r_mv (v := .bool _) rfl) ?_
          refine tkn (i := 12) rfl (by kernel_rfl) rfl H rfl ?_
          refine tkn (i := 13) rfl (by kernel_rfl) rfl H rfl ?_
          refine tkn (i := 14) rfl (by kernel_rfl) rfl H rfl ?_
          refine tk (i := 15) rfl (by kernel_rfl) rfl H (fun w' H => r_pkT (v := .bool _) rfl rfl) ?_
          refine tk (i := 16) rfl (by kernel_rfl) rfl H (fun w' H => r_mv (v := .bool _) rfl) ?_
          refine tkn (i := 17) rfl (by kernel_rfl) rfl H rfl ?_
          refine tkn (i := 18) rfl (by kernel_rfl) rfl H rfl ?_
          refine tkn (i := 19) rfl (by kernel_rfl) rfl H rfl ?_
          refine tkn (i := 20) rfl (by kernel_rfl) rfl H rfl ?_
          refine tk (i := 21) rfl (by kernel_rfl) rfl H (fun w' H => r_pkT (v := .bool _) rfl rfl) ?_
          refine tk (i := 22) rfl (by kernel_rfl) rfl H (fun w' H => r_mv (v := .bool _) rfl) ?_
          refine tkn (i := 23) rfl (by kernel_rfl) rfl H rfl ?_
          refine tkn (i := 24) rfl (by kernel_rfl) rfl H rfl ?_
          refine tkn (i := 25) rfl (by kernel_rfl) rfl H rfl ?_
          refine tkn (i := 26) rfl (by kernel_rfl) rfl H rfl ?_
          refine tk (i := 27) rfl (by kernel_rfl) rfl H (fun w' H => r_pkT (v := .bool _) rfl rfl) ?_
          refine tk (i := 28) rfl (by kernel_rfl) rfl H (fun w' H => r_mv (v := .bool _) rfl) ?_
          refine tkn (i := 29) rfl (by kernel_rfl) rfl H rfl ?_
          refine tkn (i := 30) rfl (by kernel_rfl) rfl H rfl ?_
          refine tkn (i := 31) rfl (by kernel_rfl) rfl H rfl ?_
          refine tk (i := 32) rfl (by kernel_rfl) rfl H (fun w' H => r_pkT (v := .bool _) rfl rfl) ?_
          refine tk (i := 33) rfl (by kernel_rfl) rfl H (fun w' H => r_mv (v := .bool _) rfl) ?_
          refine tkn (i := 34) rfl (by kernel_rfl) rfl H rfl ?_
          refine tkn (i := 35) rfl (by kernel_rfl) rfl H rfl ?_
          refine tkn (i := 36) rfl (by kernel_rfl) rfl H rfl ?_
          refine tk (i := 37) rfl (by kernel_rfl) rfl H (fun w' H => r_pkT (v := .bool _) rfl rfl) ?_
          refine tk (i := 38) rfl (by kernel_rfl) rfl H (fun w' H => r_mv (v := .bool _) rfl) ?_
          refine tkn (i := 39) rfl (by kernel_rfl) rfl H rfl ?_
          refine tkn (i := 40) rfl (by kernel_rfl) rfl H rfl ?_
          refine tkn (i := 41) rfl (by kernel_rfl) rfl H rfl ?_
          refine tknU (i := 42) rfl (by kernel_rfl) rfl H rfl ?_
          refine tknU (i := 43) rfl (by kernel_rfl) rfl H rfl ?_
          refine tknU (i := 44) rfl (by kernel_rfl) rfl H rfl ?_
          refine tknU (i := 45) rfl (by kernel_rfl) rfl H rfl ?_
          refine tknU (i := 46) rfl (by kernel_rfl) rfl H rfl ?_
          refine tknU (i := 47) rfl (by kernel_rfl) rfl H rfl ?_
          refine tknU (i := 48) rfl (by kernel_rfl) rfl H rfl ?_
          refine tknU (i := 49) rfl (by kernel_rfl) rfl H rfl ?_
          refine tknU (i := 50) rfl (by kernel_rfl) rfl H rfl ?_
          refine tknU (i := 51) rfl (by kernel_rfl) rfl H rfl ?_
          refine tkn (i := 52) rfl (by kernel_rfl) rfl H rfl ?_
          refine tk (i := 53) rfl (by kernel_rfl) rfl H (fun w' H => r_pkT (v := .bool _) rfl rfl) ?_
          refine da (by kernel_rfl) ?_
          refine then_n ?_
          refine cbT rfl rfl ?_
          refine sq ?_
          refine rg ?_
          refine asg (v := .bool _) rfl rfl ?_
          refine nl ?_
          refine then_n ?_
          refine rt ?_
          refine then_r ?_
          refine in_r ?_
          refine then_r ?_
          refine loop_r ?_
          refine in_r ?_
          refine then_r ?_
          refine fin_r ?_
          exact ⟨false, rfl, H.fr, fun h => by exact Bool.noConfusion h⟩
         ·refine tkg (i := 7) rfl (by kernel_rfl) rfl H rfl (fun w' H => r_fa rfl fo54_4) ?_
          refine tkg (i := 8) rfl (by kernel_rfl) rfl H rfl (fun w' H => r_ld H rfl sc9 rfl) ?_
          refine fk (i := 9) (by kernel_rfl) rfl rfl rfl ?_
          refine gy rfl ?_
          refine cl ca23 (c_sameGuid _ _ _) rfl ?_
          rintro _ w11 ⟨rfl, F⟩
          replace H := H.keep F; clear F
          refine nl ?_
          refine then_n ?_
          refine ⟨H, ?_⟩
          refine tk (i := 10) rfl (by kernel_rfl) rfl H (fun w' H => r_pkF (v := .bool _) rfl rfl) ?_
          refine tk (i := 11) rfl (by kernel_rfl) rfl H (fun w' H => r_mv (v := .bool _) rfl) ?_
          refine spa (t := 78) rfl (fun hg6 => ?_) (fun hg6 => ?_)
          ·refine tkn (i := 12) rfl (by kernel_rfl) rfl H rfl ?_
           refine tkn (i := 13) rfl (by kernel_rfl) rfl H rfl ?_
           refine tkn (i := 14) rfl (by kernel_rfl) rfl H rfl ?_
           refine tk (i := 15) rfl (by kernel_rfl) rfl H (fun w' H => r_pkT (v := .bool _) rfl rfl) ?_
           refine tk (i := 16) rfl (by kernel_rfl) rfl H (fun w' H => r_mv (v := .bool _) rfl) ?_
           refine tkn (i := 17) rfl (by kernel_rfl) rfl H rfl ?_
           refine tkn (i := 18) rfl (by kernel_rfl) rfl H rfl ?_
           refine tkn (i := 19) rfl (by kernel_rfl) rfl H rfl ?_
           refine tkn (i := 20) rfl (by kernel_rfl) rfl H rfl ?_
           refine tk (i := 21) rfl (by kernel_rfl) rfl H (fun w' H => r_pkT (v := .bool _) rfl rfl) ?_
           refine tk (i := 22) rfl (by kernel_rfl) rfl H (fun w' H => r_mv (v := .bool _) rfl) ?_
           refine tkn (i := 23) rfl (by kernel_rfl) rfl H rfl ?_
           refine tkn (i := 24) rfl (by kernel_rfl) rfl H rfl ?_
           refine tkn (i := 25) rfl (by kernel_rfl) rfl H rfl ?_
           refine tkn (i := 26) rfl (by kernel_rfl) rfl H rfl ?_
           refine tk (i := 27) rfl (by kernel_rfl) rfl H (fun w' H => r_pkT (v := .bool _) rfl rfl) ?_
           refine tk (i := 28) rfl (by kernel_rfl) rfl H (fun w' H => r_mv (v := .bool _) rfl) ?_
           refine tkn (i := 29) rfl (by kernel_rfl) rfl H rfl ?_
           refine tkn (i := 30) rfl (by kernel_rfl) rfl H rfl ?_
           refine tkn (i := 31) rfl (by kernel_rfl) rfl H rfl ?_
           refine tk (i := 32) rfl (by kernel_rfl) rfl H (fun w' H => r_pkT (v := .bool _) rfl rfl) ?_
           refine tk (i := 33) rfl (by kernel_rfl) rfl H (fun w' H => r_mv (v := .bool _) rfl) ?_
           refine tkn (i := 34) rfl (by kernel_rfl) rfl H rfl ?_
           refine tkn (i := 35) rfl (by kernel_rfl) rfl H rfl ?_
           refine tkn (i := 36) rfl (by kernel_rfl) rfl H rfl ?_
           refine tk (i := 37) rfl (by kernel_rfl) rfl H (fun w' H => r_pkT (v := .bool _) rfl rfl) ?_
           refine tk (i := 38) rfl (by kernel_rfl) rfl H (fun w' H => r_mv (v := .bool _) rfl) ?_
           refine tkn (i := 39) rfl (by kernel_rfl) rfl H rfl ?_
           refine tkn (i := 40) rfl (by kernel_rfl) rfl H rfl ?_
           refine tkn (i := 41) rfl (by kernel_rfl) rfl H rfl ?_
           refine tknU (i := 42) rfl (by kernel_rfl) rfl H rfl ?_
           refine tknU (i := 43) rfl (by kernel_rfl) rfl H rfl ?_
           refine tknU (i := 44) rfl (by kernel_rfl) rfl H rfl ?_
           refine tknU (i := 45) rfl (by kernel_rfl) rfl H rfl ?_
           refine tknU (i := 46) rfl (by kernel_rfl) rfl H rfl ?_
           refine tknU (i := 47) rfl (by kernel_rfl) rfl H rfl ?_
           refine tknU (i := 48) rfl (by kernel_rfl) rfl H rfl ?_
           refine tknU (i := 49) rfl (by kernel_rfl) rfl H rfl ?_
           refine tknU (i := 50) rfl (by kernel_rfl) rfl H rfl ?_
           refine tknU (i := 51) rfl (by kernel_rfl) rfl H rfl ?_
           refine tkn (i := 52) rfl (by kernel_rfl) rfl H rfl ?_
           refine tk (i := 53) rfl (by kernel_rfl) rfl H (fun w' H => r_pkT (v := .bool _) rfl rfl) ?_
           refine da (by kernel_rfl) ?_
           refine then_n ?_
           refine cbT rfl rfl ?_
           refine sq ?_
           refine rg ?_
           refine asg (v := .bool _) rfl rfl ?_
           refine nl ?_
           refine then_n ?_
           refine rt ?_
           refine then_r ?_
           refine in_r ?_
           refine then_r ?_
           refine loop_r ?_
           refine in_r ?_
           refine then_r ?_
           refine fin_r ?_
           exact ⟨false, rfl, H.fr, fun h => by exact Bool.noConfusion h⟩
          ·refine tkg (i := 12) rfl (by kernel_rfl) rfl H rfl (fun w' H => r_fa rfl fo54_6) ?_
           refine tkg (i := 13) rfl (by kernel_rfl) rfl H rfl (fun w' H => r_ld H rfl sc9 rfl) ?_
           refine fk (i := 14) (by kernel_rfl) rfl rfl rfl ?_
           refine gy rfl ?_
           refine cl ca23 (c_sameGuid _ _ _) rfl ?_
           rintro _ w12 ⟨rfl, F⟩
           replace H := H.keep F; clear F
           refine nl ?_
           refine then_n ?_
           refine ⟨H, ?_⟩
           refine tk (i := 15) rfl (by kernel_rfl) rfl H (fun w' H => r_pkF (v := .bool _) rfl rfl) ?_
           refine tk (i := 16) rfl (by kernel_rfl) rfl H (fun w' H => r_mv (v := .bool _) rfl) ?_
           refine spa (t := 83) rfl (fun hg7 => ?_) (fun hg7 => ?_)
           ·refine tkn (i := 17) rfl (by kernel_rfl) rfl H rfl ?_
            refine tkn (i := 18) rfl (by kernel_rfl) rfl H rfl ?_
            refine tkn (i := 19) rfl (by kernel_rfl) rfl H rfl ?_
            refine tkn (i := 20) rfl (by kernel_rfl) rfl H rfl ?_
            refine tk (i := 21) rfl (by kernel_rfl) rfl H (fun w' H => r_pkT (v := .bool _) rfl rfl) ?_
            refine tk (i := 22) rfl (by kernel_rfl) rfl H (fun w' H => r_mv (v := .bool _) rfl) ?_
            refine tkn (i := 23) rfl (by kernel_rfl) rfl H rfl ?_
            refine tkn (i := 24) rfl (by kernel_rfl) rfl H rfl ?_
            refine tkn (i := 25) rfl (by kernel_rfl) rfl H rfl ?_
            refine tkn (i := 26) rfl (by kernel_rfl) rfl H rfl ?_
            refine tk (i := 27) rfl (by kernel_rfl) rfl H (fun w' H => r_pkT (v := .bool _) rfl rfl) ?_
            refine tk (i := 28) rfl (by kernel_rfl) rfl H (fun w' H => r_mv (v := .bool _) rfl) ?_
            refine tkn (i := 29) rfl (by kernel_rfl) rfl H rfl ?_
            refine tkn (i := 30) rfl (by kernel_rfl) rfl H rfl ?_
            refine tkn (i := 31) rfl (by kernel_rfl) rfl H rfl ?_
            refine tk (i := 32) rfl (by kernel_rfl) rfl H (fun w' H => r_pkT (v := .bool _) rfl rfl) ?_
            refine tk (i := 33) rfl (by kernel_rfl) rfl H (fun w' H => r_mv (v := .bool _) rfl) ?_
            refine tkn (i := 34) rfl (by kernel_rfl) rfl H rfl ?_
            refine tkn (i := 35) rfl (by kernel_rfl) rfl H rfl ?_
            refine tkn (i := 36) rfl (by kernel_rfl) rfl H rfl ?_
            refine tk (i := 37) rfl (by kernel_rfl) rfl H (fun w' H => r_pkT (v := .bool _) rfl rfl) ?_
            refine tk (i := 38) rfl (by kernel_rfl) rfl H (fun w' H => r_mv (v := .bool _) rfl) ?_
            refine tkn (i := 39) rfl (by kernel_rfl) rfl H rfl ?_
            refine tkn (i := 40) rfl (by kernel_rfl) rfl H rfl ?_
            refine tkn (i := 41) rfl (by kernel_rfl) rfl H rfl ?_
            refine tknU (i := 42) rfl (by kernel_rfl) rfl H rfl ?_
            refine tknU (i := 43) rfl (by kernel_rfl) rfl H rfl ?_
            refine tknU (i := 44) rfl (by kernel_rfl) rfl H rfl ?_
            refine tknU (i := 45) rfl (by kernel_rfl) rfl H rfl ?_
            refine tknU (i := 46) rfl (by kernel_rfl) rfl H rfl ?_
            refine tknU (i := 47) rfl (by kernel_rfl) rfl H rfl ?_
            refine tknU (i := 48) rfl (by kernel_rfl) rfl H rfl ?_
            refine tknU (i := 49) rfl (by kernel_rfl) rfl H rfl ?_
            refine tknU (i := 50) rfl (by kernel_rfl) rfl H rfl ?_
            refine tknU (i := 51) rfl (by kernel_rfl) rfl H rfl ?_
            refine tkn (i := 52) rfl (by kernel_rfl) rfl H rfl ?_
            refine tk (i := 53) rfl (by kernel_rfl) rfl H (fun w' H => r_pkT (v := .bool _) rfl rfl) ?_
            refine da (by kernel_rfl) ?_
            refine then_n ?_
            refine cbT rfl rfl ?_
            refine sq ?_
            refine rg ?_
            refine asg (v := .bool _) rfl rfl ?_
            refine nl ?_
            refine then_n ?_
            refine rt ?_
            refine then_r ?_
            refine in_r ?_
            refine then_r ?_
            refine loop_r ?_
            refine in_r ?_
            refine then_r ?_
            refine fin_r ?_
            exact ⟨false, rfl, H.fr, fun h => by exact Bool.noConfusion h⟩
           ·refine tkg (i := 17) rfl (by kernel_rfl) rfl H rfl (fun w' H => r_fa rfl fo54_5) ?_
            refine tkg (i := 18) rfl (by kernel_rfl) rfl H rfl (fun w' H => r_ld H rfl sc9 rfl) ?_
            refine fk (i := 19) (by kernel_rfl) rfl rfl rfl ?_
            refine gy rfl ?_
            refine cl ca24 (c_gptName _ _ (by omega)) rfl ?_
            rintro _ w13 ⟨rfl, F⟩
            replace H := H.keep F; clear F
            refine nl ?_
            refine then_n ?_
            refine ⟨H, ?_⟩
            refine tkg (i := 20) rfl (by kernel_rfl) rfl H rfl (fun w' H => r_unot rfl) ?_
            refine tk (i := 21) rfl (by kernel_rfl) rfl H (fun w' H => r_pkF (v := .bool _) rfl rfl) ?_
            refine tk (i := 22) rfl (by kernel_rfl) rfl H (fun w' H => r_mv (v := .bool _) rfl) ?_
            refine spa (t := 89) rfl (fun hg8 => ?_) (fun hg8 => ?_)
            ·refine tkn (i := 23) rfl (by kernel_rfl) rfl H rfl ?_
             refine tkn (i := 24) rfl (by kernel_rfl) rfl H rfl ?_
             refine tkn (i := 25) rfl (by kernel_rfl) rfl H rfl ?_
             refine tkn (i := 26) rfl (by kernel_rfl) rfl H rfl ?_
             refine tk (i := 27) rfl (by kernel_rfl) rfl H (fun w' H => r_pkT (v := .bool _) rfl rfl) ?_
             refine tk (i := 28) rfl (by kernel_rfl) rfl H (fun w' H => r_mv (v := .bool _) rfl) ?_
             refine tkn (i := 29) rfl (by kernel_rfl) rfl H rfl ?_
             refine tkn (i := 30) rfl (by kernel_rfl) rfl H rfl ?_
             refine tkn (i := 31) rfl (by kernel_rfl) rfl H rfl ?_
             refine tk (i := 32) rfl (by kernel_rfl) rfl H (fun w' H => r_pkT (v := .bool _) rfl rfl) ?_
             refine tk (i := 33) rfl (by kernel_rfl) rfl H (fun w' H => r_mv (v := .bool _) rfl) ?_
             refine tkn (i := 34) rfl (by kernel_rfl) rfl H rfl ?_
             refine tkn (i := 35) rfl (by kernel_rfl) rfl H rfl ?_
             refine tkn (i := 36) rfl (by kernel_rfl) rfl H rfl ?_
             refine tk (i := 37) rfl (by kernel_rfl) rfl H (fun w' H => r_pkT (v := .bool _) rfl rfl) ?_
             refine tk (i := 38) rfl (by kernel_rfl) rfl H (fun w' H => r_mv (v := .bool _) rfl) ?_
             refine tkn (i := 39) rfl (by kernel_rfl) rfl H rfl ?_
             refine tkn (i := 40) rfl (by kernel_rfl) rfl H rfl ?_
             refine tkn (i := 41) rfl (by kernel_rfl) rfl H rfl ?_
             refine tknU (i := 42) rfl (by kernel_rfl) rfl H rfl ?_
             refine tknU (i := 43) rfl (by kernel_rfl) rfl H rfl ?_
             refine tknU (i := 44) rfl (by kernel_rfl) rfl H rfl ?_
             refine tknU (i := 45) rfl (by kernel_rfl) rfl H rfl ?_
             refine tknU (i := 46) rfl (by kernel_rfl) rfl H rfl ?_
             refine tknU (i := 47) rfl (by kernel_rfl) rfl H rfl ?_
             refine tknU (i := 48) rfl (by kernel_rfl) rfl H rfl ?_
             refine tknU (i := 49) rfl (by kernel_rfl) rfl H rfl ?_
             refine tknU (i := 50) rfl (by kernel_rfl) rfl H rfl ?_
             refine tknU (i := 51) rfl (by kernel_rfl) rfl H rfl ?_
             refine tkn (i := 52) rfl (by kernel_rfl) rfl H rfl ?_
             refine tk (i := 53) rfl (by kernel_rfl) rfl H (fun w' H => r_pkT (v := .bool _) rfl rfl) ?_
             refine da (by kernel_rfl) ?_
             refine then_n ?_
             refine cbT rfl rfl ?_
             refine sq ?_
             refine rg ?_
             refine asg (v := .bool _) rfl rfl ?_
             refine nl ?_
             refine then_n ?_
             refine rt ?_
             refine then_r ?_
             refine in_r ?_
             refine then_r ?_
             refine loop_r ?_
             refine in_r ?_
             refine then_r ?_
             refine fin_r ?_
             exact ⟨false, rfl, H.fr, fun h => by exact Bool.noConfusion h⟩
            ·refine tkg (i := 23) rfl (by kernel_rfl) rfl H rfl (fun w' H => r_fa rfl fo54_5) ?_
             refine tkg (i := 24) rfl (by kernel_rfl) rfl H rfl (fun w' H => r_ld H rfl sc9 rfl) ?_
             refine fk (i := 25) (by kernel_rfl) rfl rfl rfl ?_
             refine gy rfl ?_
             refine cl ca25 (c_valid _ p.nm (hU.keep H.fr) (by omega)) rfl ?_
             rintro _ w14 ⟨gv, rfl, F⟩
             replace H := H.keep F; clear F
             refine nl ?_
             refine then_n ?_
             refine ⟨H, ?_⟩
             refine tkg (i := 26) rfl (by kernel_rfl) rfl H rfl (fun w' H => r_unot rfl) ?_
             refine tk (i := 27) rfl (by kernel_rfl) rfl H (fun w' H => r_pkF (v := .bool _) rfl rfl) ?_
             refine tk (i := 28) rfl (by kernel_rfl) rfl H (fun w' H => r_mv (v := .bool _) rfl) ?_
             refine spa (t := 95) rfl (fun hg9 => ?_) (fun hg9 => ?_)
             ·refine tkn (i := 29) rfl (by kernel_rfl) rfl H rfl ?_
              refine tkn (i := 30) rfl (by kernel_rfl) rfl H rfl ?_
              refine tkn (i := 31) rfl (by kernel_rfl) rfl H rfl ?_
              refine tk (i := 32) rfl (by kernel_rfl) rfl H (fun w' H => r_pkT (v := .bool _) rfl rfl) ?_
              refine tk (i := 33) rfl (by kernel_rfl) rfl H (fun w' H => r_mv (v := .bool _) rfl) ?_
              refine tkn (i := 34) rfl (by kernel_rfl) rfl H rfl ?_
              refine tkn (i := 35) rfl (by kernel_rfl) rfl H rfl ?_
              refine tkn (i := 36) rfl (by kernel_rfl) rfl H rfl ?_
              refine tk (i := 37) rfl (by kernel_rfl) rfl H (fun w' H => r_pkT (v := .bool _) rfl rfl) ?_
              refine tk (i := 38) rfl (by kernel_rfl) rfl H (fun w' H => r_mv (v := .bool _) rfl) ?_
              refine tkn (i := 39) rfl (by kernel_rfl) rfl H rfl ?_
              refine tkn (i := 40) rfl (by kernel_rfl) rfl H rfl ?_
              refine tkn (i := 41) rfl (by kernel_rfl) rfl H rfl ?_
              refine tknU (i := 42) rfl (by kernel_rfl) rfl H rfl ?_
              refine tknU (i := 43) rfl (by kernel_rfl) rfl H rfl ?_
              refine tknU (i := 44) rfl (by kernel_rfl) rfl H rfl ?_
              refine tknU (i := 45) rfl (by kernel_rfl) rfl H rfl ?_
              refine tknU (i := 46) rfl (by kernel_rfl) rfl H rfl ?_
              refine tknU (i := 47) rfl (by kernel_rfl) rfl H rfl ?_
              refine tknU (i := 48) rfl (by kernel_rfl) rfl H rfl ?_
              refine tknU (i := 49) rfl (by kernel_rfl) rfl H rfl ?_
              refine tknU (i := 50) rfl (by kernel_rfl) rfl H rfl ?_
              refine tknU (i := 51) rfl (by kernel_rfl) rfl H rfl ?_
              refine tkn (i := 52) rfl (by kernel_rfl) rfl H rfl ?_
              refine tk (i := 53) rfl (by kernel_rfl) rfl H (fun w' H => r_pkT (v := .bool _) rfl rfl) ?_
              refine da (by kernel_rfl) ?_
              refine then_n ?_
              refine cbT rfl rfl ?_
              refine sq ?_
              refine rg ?_
              refine asg (v := .bool _) rfl rfl ?_
              refine nl ?_
              refine then_n ?_
              refine rt ?_
              refine then_r ?_
              refine in_r ?_
              refine then_r ?_
              refine loop_r ?_
              refine in_r ?_
              refine then_r ?_
              refine fin_r ?_
              exact ⟨false, rfl, H.fr, fun h => by exact Bool.noConfusion h⟩
             ·refine tkg (i := 29) rfl (by kernel_rfl) rfl H rfl (fun w' H => r_fa rfl fo54_0) ?_
              refine tkg (i := 30) rfl (by kernel_rfl) rfl H rfl (fun w' H => r_ld H rfl sc3 rfl) ?_
              refine tkg (i := 31) rfl (by kernel_rfl) rfl H rfl (fun w' H => r_lss rfl rfl) ?_
              refine tk (i := 32) rfl (by kernel_rfl) rfl H (fun w' H => r_pkF (v := .bool _) rfl rfl) ?_
              refine tk (i := 33) rfl (by kernel_rfl) rfl H (fun w' H => r_mv (v := .bool _) rfl) ?_
              refine spad (t := 100) rfl (fun hg10 => ?_) (fun hg10 => ?_)
              ·refine tkn (i := 34) rfl (by kernel_rfl) rfl H rfl ?_
               refine tkn (i := 35) rfl (by kernel_rfl) rfl H rfl ?_
               refine tkn (i := 36) rfl (by kernel_rfl) rfl H rfl ?_
               refine tk (i := 37) rfl (by kernel_rfl) rfl H (fun w' H => r_pkT (v := .bool _) rfl rfl) ?_
               refine tk (i := 38) rfl (by kernel_rfl) rfl H (fun w' H => r_mv (v := .bool _) rfl) ?_
               refine tkn (i := 39) rfl (by kernel_rfl) rfl H rfl ?_
               refine tkn (i := 40) rfl (by kernel_rfl) rfl H rfl ?_
               refine tkn (i := 41) rfl (by kernel_rfl) rfl H rfl ?_
               refine tknU (i := 42) rfl (by kernel_rfl) rfl H rfl ?_
               refine tknU (i := 43) rfl (by kernel_rfl) rfl H rfl ?_
               refine tknU (i := 44) rfl (by kernel_rfl) rfl H rfl ?_
               refine tknU (i := 45) rfl (by kernel_rfl) rfl H rfl ?_
               refine tknU (i := 46) rfl (by kernel_rfl) rfl H rfl ?_
               refine tknU (i := 47) rfl (by kernel_rfl) rfl H rfl ?_
               refine tknU (i := 48) rfl (by kernel_rfl) rfl H rfl ?_
               refine tknU (i := 49) rfl (by kernel_rfl) rfl H rfl ?_
               refine tknU (i := 50) rfl (by kernel_rfl) rfl H rfl ?_
               refine tknU (i := 51) rfl (by kernel_rfl) rfl H rfl ?_
               refine tkn (i := 52) rfl (by kernel_rfl) rfl H rfl ?_
               refine tk (i := 53) rfl (by kernel_rfl) rfl H (fun w' H => r_pkT (v := .bool _) rfl rfl) ?_
               refine da (by kernel_rfl) ?_
               refine then_n ?_
               refine cbT rfl rfl ?_
               refine sq ?_
               refine rg ?_
               refine asg (v := .bool _) rfl rfl ?_
               refine nl ?_
               refine then_n ?_
               refine rt ?_
               refine then_r ?_
               refine in_r ?_
               refine then_r ?_
               refine loop_r ?_
               refine in_r ?_
               refine then_r ?_
               refine fin_r ?_
               exact ⟨false, rfl, H.fr, fun h => by exact Bool.noConfusion h⟩
              ·refine tkg (i := 34) rfl (by kernel_rfl) rfl H rfl (fun w' H => r_fa rfl fo54_0) ?_
               refine tkg (i := 35) rfl (by kernel_rfl) rfl H rfl (fun w' H => r_ld H rfl sc3 rfl) ?_
               refine tkg (i := 36) rfl (by kernel_rfl) rfl H rfl (fun w' H => r_gtr rfl rfl) ?_
               refine tk (i := 37) rfl (by kernel_rfl) rfl H (fun w' H => r_pkF (v := .bool _) rfl rfl) ?_
               refine tk (i := 38) rfl (by kernel_rfl) rfl H (fun w' H => r_mv (v := .bool _) rfl) ?_
               refine spad (t := 105) rfl (fun hg11 => ?_) (fun hg11 => ?_)
               ·refine tkn (i := 39) rfl (by kernel_rfl) rfl H rfl ?_
                refine tkn (i := 40) rfl (by kernel_rfl) rfl H rfl ?_
                refine tkn (i := 41) rfl (by kernel_rfl) rfl H rfl ?_
                refine tknU (i := 42) rfl (by kernel_rfl) rfl H rfl ?_
                refine tknU (i := 43) rfl (by kernel_rfl) rfl H rfl ?_
                refine tknU (i := 44) rfl (by kernel_rfl) rfl H rfl ?_
                refine tknU (i := 45) rfl (by kernel_rfl) rfl H rfl ?_
                refine tknU (i := 46) rfl (by kernel_rfl) rfl H rfl ?_
                refine tknU (i := 47) rfl (by kernel_rfl) rfl H rfl ?_
                refine tknU (i := 48) rfl (by kernel_rfl) rfl H rfl ?_
                refine tknU (i := 49) rfl (by kernel_rfl) rfl H rfl ?_
                refine tknU (i := 50) rfl (by kernel_rfl) rfl H rfl ?_
                refine tknU (i := 51) rfl (by kernel_rfl) rfl H rfl ?_
                refine tkn (i := 52) rfl (by kernel_rfl) rfl H rfl ?_
                refine tk (i := 53) rfl (by kernel_rfl) rfl H (fun w' H => r_pkT (v := .bool _) rfl rfl) ?_
                refine da (by kernel_rfl) ?_
                refine then_n ?_
                refine cbT rfl rfl ?_
                refine sq ?_
                refine rg ?_
                refine asg (v := .bool _) rfl rfl ?_
                refine nl ?_
                refine then_n ?_
                refine rt ?_
                refine then_r ?_
                refine in_r ?_
                refine then_r ?_
                refine loop_r ?_
                refine in_r ?_
                refine then_r ?_
                refine fin_r ?_
                exact ⟨false, rfl, H.fr, fun h => by exact Bool.noConfusion h⟩
               ·refine tkg (i := 39) rfl (by kernel_rfl) rfl H rfl (fun w' H => r_mv (v := .int .i64 _) rfl) ?_
                refine tkg (i := 40) rfl (by kernel_rfl) rfl H rfl (fun w' H => r_gtr rfl rfl) ?_
                refine tkg (i := 41) rfl (by kernel_rfl) rfl H rfl (fun w' H => r_mv (v := .bool _) rfl) ?_
                refine spad (t := 108) rfl (fun hg12 => ?_) (fun hg12 => ?_)
                ·obtain ⟨x9, hp9⟩ : ∃ q, ps[i - 1]? = some q := ⟨_, List.getElem?_eq_getElem (by omega)⟩
                 refine tkg (i := 42) rfl (by kernel_rfl) rfl H rfl (fun w' H => r_fa rfl fo54_0) ?_
                 refine tkg (i := 43) rfl (by kernel_rfl) rfl H rfl (fun w' H => r_ld H rfl sc3 rfl) ?_
                 refine tkg (i := 44) rfl (by kernel_rfl) rfl H rfl (fun w' H => r_fa rfl fo24_0) ?_
                 refine tkg (i := 45) rfl (by kernel_rfl) rfl H rfl (fun w' H => r_ld H rfl sc22 rfl) ?_
                 refine tkg (i := 46) rfl (by kernel_rfl) rfl H rfl (fun w' H => r_mv (v := .int .i64 _) rfl) ?_
                 refine tkg (i := 47) rfl (by kernel_rfl) rfl H rfl (fun w' H => r_sub rfl rfl (by first | exact w_i64 (by omega) | exact w_i64 (rng_i64 _) | rfl)) ?_
                 refine tkg (i := 48) rfl (by kernel_rfl) rfl H rfl (fun w' H => r_iBN (ad.add ((i - 1) * 8)) rfl rfl Tryz.underlying22 sz54_8 (by omega) (congrArg (fun k => ad.add (k * 8)) (by omega))) ?_
                 refine tkg (i := 49) rfl (by kernel_rfl) rfl H rfl (fun w' H => r_faG rfl fo54_0) ?_
                 refine tkg (i := 50) rfl (by kernel_rfl) rfl H rfl (fun w' H => r_lc (v := .int .i64 x9.ix) rfl (H.fr.cell (hq.elem hp9 0 _ rfl) (by simp)) sc3) ?_
                 refine tkg (i := 51) rfl (by kernel_rfl) rfl H rfl (fun w' H => r_leq rfl rfl) ?_
                 refine tkg (i := 52) rfl (by kernel_rfl) rfl H rfl (fun w' H => r_pkT (v := .bool _) rfl rfl) ?_
                 refine tk (i := 53) rfl (by kernel_rfl) rfl H (fun w' H => r_pkF (v := .bool _) rfl rfl) ?_
                 refine da (by kernel_rfl) ?_
                 refine then_n ?_
                 refine cd rfl (fun hc3 => ?_) (fun hc3 => ?_)
                 ·refine sq ?_
                  refine rg ?_
                  refine asg (v := .bool _) rfl rfl ?_
                  refine nl ?_
                  refine then_n ?_
                  refine rt ?_
                  refine then_r ?_
                  refine in_r ?_
                  refine then_r ?_
                  refine loop_r ?_
                  refine in_r ?_
                  refine then_r ?_
                  refine fin_r ?_
                  exact ⟨false, rfl, H.fr, fun h => by exact Bool.noConfusion h⟩
                 ·refine sk ?_
                  refine then_n ?_
                  exact ⟨(), ⟨⟨by simpa using hg4, by simpa using hg5, hg6, hg7, by simpa using hg8, ⟨by omega, by omega⟩, fun q _ hq9 => by rw [hp9] at hq9; cases hq9; omega⟩, H⟩, (fN _), agX⟩
                ·refine tkn (i := 42) rfl (by kernel_rfl) rfl H rfl ?_
                 refine tkn (i := 43) rfl (by kernel_rfl) rfl H rfl ?_
                 refine tkn (i := 44) rfl (by kernel_rfl) rfl H rfl ?_
                 refine tkn (i := 45) rfl (by kernel_rfl) rfl H rfl ?_
                 refine tkn (i := 46) rfl (by kernel_rfl) rfl H rfl ?_
                 refine tkn (i := 47) rfl (by kernel_rfl) rfl H rfl ?_
                 refine tkn (i := 48) rfl (by kernel_rfl) rfl H rfl ?_
                 refine tkn (i := 49) rfl (by kernel_rfl) rfl H rfl ?_
                 refine tkn (i := 50) rfl (by kernel_rfl) rfl H rfl ?_
                 refine tkn (i := 51) rfl (by kernel_rfl) rfl H rfl ?_
                 refine tkg (i := 52) rfl (by kernel_rfl) rfl H rfl (fun w' H => r_pkF (v := .bool _) rfl rfl) ?_
                 refine tk (i := 53) rfl (by kernel_rfl) rfl H (fun w' H => r_pkF (v := .bool _) rfl rfl) ?_
                 refine da (by kernel_rfl) ?_
                 refine then_n ?_
                 refine cbF rfl rfl ?_
                 refine sk ?_
                 refine then_n ?_
                 exact ⟨(), ⟨⟨by simpa using hg4, by simpa using hg5, hg6, hg7, by simpa using hg8, ⟨by omega, by omega⟩, fun q h0 _ => by omega⟩, H⟩, (fN _), agX⟩
       ·rintro _u ρx w15 ⟨⟨q1, q2, q3, q4, q5, q6, q7⟩, H⟩
        refine sq ?_
        refine sq ?_
        refine rg ?_
        refine fa rfl fo54_5 rfl ?_
        refine ld H rfl sc9 rfl rfl ?_
        refine rngS H rfl Tryz.underlying9 rfl ?_
        clear H; intro b6 w16 hb6 H _
        refine nl ?_
        refine then_n ?_
        refine bk ?_
        refine lpM (α := Nat) [4, 15, 124, 125, 126, 127, 128, 129, 130, 131, 132] (fun q => []) (fun q w' => q ≤ p.nm.length ∧ (okN (p.nm.drop q) → okN p.nm) ∧ SH w [] w' [⟨b6, .stringIter (str p.nm) q, true⟩, ⟨b5, .cells (Bs (gB p.gu)).toArray 50 (0, 0), true⟩, ⟨b4, .cells (Bs (gB p.ty)).toArray 50 (0, 0), true⟩, ⟨b3, .cells p.cells.toArray 54 (0, 0), true⟩, ⟨b2, .cells (Bs (gB g)).toArray 50 (0, 0), true⟩, ⟨b1, .cells (gtCells (some ad) m c 512 g pr rc).toArray 24 (0, 0), true⟩]) (fun q => p.nm.length - q) 0 ?_ (fN _) ?_
        ·exact ⟨by omega, id, H⟩
        ·rintro q ρx w17 ⟨hqq, hkk, H⟩
         refine sq ?_
         refine rg ?_
         refine nxt H rfl rfl ?_
         clear H; intro w18 H _
         refine xt rfl (next0 _ _) rfl ?_
         refine nl ?_
         refine then_n ?_
         refine sq ?_
         refine cd rfl (fun hc4 => ?_) (fun hc4 => ?_)
         ·have hlt : q < p.nm.length := by assumption
          rw [nextP_of hlt] at H
          obtain ⟨r1, r2, r3, r4, r5, r6, _⟩ := rune_at hlt
          rw [List.length_drop] at r2
          refine sk ?_
          refine then_n ?_
          refine bk ?_
          refine sq ?_
          refine rg ?_
          refine xt rfl (next2 (by omega)) rfl ?_
          refine asg (v := .int .i32 _) rfl rfl ?_
          refine nl ?_
          refine then_n ?_
          refine sq ?_
          refine rg ?_
          refine mv (v := .int .i32 _) rfl rfl ?_
          refine eql rfl rfl rfl ?_
          refine mv (v := .bool _) rfl rfl ?_
          refine spd (t := 129) rfl (fun hg13 => ?_) (fun hg13 => ?_)
          ·refine gn rfl rfl ?_
           refine gn rfl rfl ?_
           refine pkT (v := .bool _) rfl rfl rfl ?_
           refine nl ?_
           refine then_n ?_
           refine cbT rfl rfl ?_
           refine sq ?_
           refine rg ?_
           refine asg (v := .bool _) rfl rfl ?_
           refine nl ?_
           refine then_n ?_
           refine rt ?_
           refine in_r ?_
           refine loop_r ?_
           refine in_r ?_
           refine then_r ?_
           refine in_r ?_
           refine then_r ?_
           refine loop_r ?_
           refine in_r ?_
           refine then_r ?_
           refine fin_r ?_
           exact ⟨false, rfl, H.fr, fun h => by exact Bool.noConfusion h⟩
          ·refine gy rfl ?_
           refine mv (v := .int .i32 _) rfl rfl ?_
           refine gy rfl ?_
           refine eql rfl rfl rfl ?_
           refine pkF (v := .bool _) rfl rfl rfl ?_
           refine nl ?_
           refine then_n ?_
           refine cd rfl (fun hc5 => ?_) (fun hc5 => ?_)
           ·refine sq ?_
            refine rg ?_
            refine asg (v := .bool _) rfl rfl ?_
            refine nl ?_
            refine then_n ?_
            refine rt ?_
            refine in_r ?_
            refine loop_r ?_
            refine in_r ?_
            refine then_r ?_
            refine in_r ?_
            refine then_r ?_
            refine loop_r ?_
            refine in_r ?_
            refine then_r ?_
            refine fin_r ?_
            exact ⟨false, rfl, H.fr, fun h => by exact Bool.noConfusion h⟩
           ·refine sk ?_
            refine in_n ?_
            refine loop_n ?_
            exact ⟨q + (rune1 (p.nm.drop q)).2, (by (try dsimp only); omega), ⟨by omega, fun h => hkk (okN_step hlt (by omega) (by omega) h), H⟩, (fN _), agX⟩
         ·have hnm := okN_end (by assumption) hkk
          rw [nextP_end (by assumption)] at H
          refine ex ?_
          refine then_e ?_
          refine loop_e ?_
          refine in_hit rfl ?_
          refine then_n ?_
          refine sq ?_
          refine sq ?_
          refine rg ?_
          refine fa rfl fo54_1 rfl ?_
          refine ld H rfl sc28 rfl rfl ?_
          refine mv (v := .int .u64 _) rfl rfl ?_
          refine add rfl rfl (by first | exact w_u64 (by omega) | exact w_u64 (rng_u64 _) | exact m_u64 _) rfl ?_
          refine lss rfl rfl rfl ?_
          refine mv (v := .bool _) rfl rfl ?_
          refine spd (t := 138) rfl (fun hg14 => ?_) (fun hg14 => ?_)
          ·refine gn rfl rfl ?_
           refine gn rfl rfl ?_
           refine gn rfl rfl ?_
           refine gn rfl rfl ?_
           refine gn rfl rfl ?_
           refine pkT (v := .bool _) rfl rfl rfl ?_
           refine mv (v := .bool _) rfl rfl ?_
           refine gn rfl rfl ?_
           refine gn rfl rfl ?_
           refine gn rfl rfl ?_
           refine gn rfl rfl ?_
           refine gn rfl rfl ?_
           refine gn rfl rfl ?_
           refine gn rfl rfl ?_
           refine pkT (v := .bool _) rfl rfl rfl ?_
           refine mv (v := .bool _) rfl rfl ?_
           refine gn rfl rfl ?_
           refine gn rfl rfl ?_
           refine gn rfl rfl ?_
           refine gn rfl rfl ?_
           refine gn rfl rfl ?_
           refine gn rfl rfl ?_
           refine gn rfl rfl ?_
           refine gn rfl rfl ?_
           refine gn rfl rfl ?_
           refine gn rfl rfl ?_
           refine gn rfl rfl ?_
           refine gn rfl rfl ?_
           refine gn rfl rfl ?_
           refine pkT (v := .bool _) rfl rfl rfl ?_
           refine nl ?_
           refine then_n ?_
           refine cbT rfl rfl ?_
           refine sq ?_
           refine rg ?_
           refine asg (v := .bool _) rfl rfl ?_
           refine nl ?_
           refine then_n ?_
           refine rt ?_
           refine then_r ?_
           refine in_r ?_
           refine then_r ?_
           refine loop_r ?_
           refine in_r ?_
           refine then_r ?_
           refine fin_r ?_
           exact ⟨false, rfl, H.fr, fun h => by exact Bool.noConfusion h⟩
          ·refine gy rfl ?_
           refine fa rfl fo54_2 rfl ?_
           refine gy rfl ?_
           refine ld H rfl sc28 rfl rfl ?_
           refine gy rfl ?_
           refine fa rfl fo54_1 rfl ?_
           refine gy rfl ?_
           refine ld H rfl sc28 rfl rfl ?_
           refine gy rfl ?_
           refine lss rfl rfl rfl ?_
           refine pkF (v := .bool _) rfl rfl rfl ?_
           refine mv (v := .bool _) rfl rfl ?_
           refine spd (t := 145) rfl (fun hg15 => ?_) (fun hg15 => ?_)
           ·refine gn rfl rfl ?_
            refine gn rfl rfl ?_
            refine gn rfl rfl ?_
            refine gn rfl rfl ?_
            refine gn rfl rfl ?_
            refine gn rfl rfl ?_
            refine gn rfl rfl ?_
            refine pkT (v := .bool _) rfl rfl rfl ?_
            refine mv (v := .bool _) rfl rfl ?_
            refine gn rfl rfl ?_
            refine gn rfl rfl ?_
            refine gn rfl rfl ?_
            refine gn rfl rfl ?_
            refine gn rfl rfl ?_
            refine gn rfl rfl ?_
            refine gn rfl rfl ?_
            refine gn rfl rfl ?_
            refine gn rfl rfl ?_
            refine gn rfl rfl ?_
            refine gn rfl rfl ?_
            refine gn rfl rfl ?_
            refine gn rfl rfl ?_
            refine pkT (v := .bool _) rfl rfl rfl ?_
            refine nl ?_
            refine then_n ?_
            refine cbT rfl rfl ?_
            refine sq ?_
            refine rg ?_
            refine asg (v := .bool _) rfl rfl ?_
            refine nl ?_
            refine then_n ?_
            refine rt ?_
            refine then_r ?_
            refine in_r ?_
            refine then_r ?_
            refine loop_r ?_
            refine in_r ?_
            refine then_r ?_
            refine fin_r ?_
            exact ⟨false, rfl, H.fr, fun h => by exact Bool.noConfusion h⟩
           ·refine gy rfl ?_
            refine fa rfl fo54_2 rfl ?_
            refine gy rfl ?_
            refine ld H rfl sc28 rfl rfl ?_
            refine gy rfl ?_
            refine mv (v := .int .u64 _) rfl rfl ?_
            refine gy rfl ?_
            refine sub rfl rfl (by first | exact w_u64 (by omega) | exact w_u64 (rng_u64 _) | exact m_u64 _) rfl ?_
            refine gy rfl ?_
            refine mv (v := .int .u64 _) rfl rfl ?_
            refine gy rfl ?_
            refine sub rfl rfl (by first | exact w_u64 (by omega) | exact w_u64 (rng_u64 _) | exact m_u64 _) rfl ?_
            refine gy rfl ?_
            refine gtr rfl rfl rfl ?_
            refine pkF (v := .bool _) rfl rfl rfl ?_
            refine mv (v := .bool _) rfl rfl ?_
            refine spd (t := 154) rfl (fun hg16 => ?_) (fun hg16 => ?_)
            ·refine gn rfl rfl ?_
             refine gn rfl rfl ?_
             refine gn rfl rfl ?_
             refine gn rfl rfl ?_
             refine gn rfl rfl ?_
             refine gn rfl rfl ?_
             refine gn rfl rfl ?_
             refine gn rfl rfl ?_
             refine gn rfl rfl ?_
             refine gn rfl rfl ?_
             refine gn rfl rfl ?_
             refine gn rfl rfl ?_
             refine gn rfl rfl ?_
             refine pkT (v := .bool _) rfl rfl rfl ?_
             refine nl ?_
             refine then_n ?_
             refine cbT rfl rfl ?_
             refine sq ?_
             refine rg ?_
             refine asg (v := .bool _) rfl rfl ?_
             refine nl ?_
             refine then_n ?_
             refine rt ?_
             refine then_r ?_
             refine in_r ?_
             refine then_r ?_
             refine loop_r ?_
             refine in_r ?_
             refine then_r ?_
             refine fin_r ?_
             exact ⟨false, rfl, H.fr, fun h => by exact Bool.noConfusion h⟩
            ·refine gy rfl ?_
             refine fa rfl fo54_3 rfl ?_
             refine gy rfl ?_
             refine ld H rfl sc28 rfl rfl ?_
             refine gy rfl ?_
             refine fa rfl fo54_2 rfl ?_
             refine gy rfl ?_
             refine ld H rfl sc28 rfl rfl ?_
             refine gy rfl ?_
             refine fa rfl fo54_1 rfl ?_
             refine gy rfl ?_
             refine ld H rfl sc28 rfl rfl ?_
             refine gy rfl ?_
             refine sub rfl rfl (by first | exact w_u64 (by omega) | exact w_u64 (rng_u64 _) | exact m_u64 _) rfl ?_
             refine gy rfl ?_
             refine add rfl rfl (by first | exact w_u64 (by omega) | exact w_u64 (rng_u64 _) | exact m_u64 _) rfl ?_
             refine gy rfl ?_
             refine fa rfl fo24_1 rfl ?_
             refine gy rfl ?_
             refine ld H rfl sc3 rfl rfl ?_
             refine gy rfl ?_
             refine cvi rfl rfl Tryz.underlying28 (by first | exact w_u64 (by omega) | exact w_u64 (rng_u64 _) | exact m_u64 _) rfl ?_
             refine gy rfl ?_
             refine mul rfl rfl (by first | exact w_u64 (by omega) | exact w_u64 (rng_u64 _) | exact m_u64 _) rfl ?_
             refine gy rfl ?_
             refine neq rfl rfl rfl ?_
             refine pkF (v := .bool _) rfl rfl rfl ?_
             refine nl ?_
             refine then_n ?_
             refine cd rfl (fun hc6 => ?_) (fun hc6 => ?_)
             ·refine sq ?_
              refine rg ?_
              refine asg (v := .bool _) rfl rfl ?_
              refine nl ?_
              refine then_n ?_
              refine rt ?_
              refine then_r ?_
              refine in_r ?_
              refine then_r ?_
              refine loop_r ?_
              refine in_r ?_
              refine then_r ?_
              refine fin_r ?_
              exact ⟨false, rfl, H.fr, fun h => by exact Bool.noConfusion h⟩
             ·refine sk ?_
              refine then_n ?_
              refine sq ?_
              refine rg ?_
              refine fa rfl fo24_0 rfl ?_
              refine ld H rfl sc22 rfl rfl ?_
              refine mv (v := .int .i64 _) rfl rfl ?_
              refine slh rfl rfl Tryz.underlying22 sz54_8 (by first | trivial | omega | (simp; omega)) rfl ?_
              refine lnS rfl Tryz.underlying22 rfl ?_
              refine mv (v := .int .i64 _) rfl rfl ?_
              refine nl ?_
              refine then_n ?_
              refine bk ?_
              refine lpM (α := Nat) [4, 17, 174, 175, 176, 177, 178, 179, 180, 181, 182, 183, 184, 185, 186, 187, 188, 189, 190, 191, 192, 193, 194, 195, 196, 197] (fun j => [(174, .int .i64 (j : Int))]) (fun j w' => j ≤ i ∧ SH w [] w' [⟨b3, .cells p.cells.toArray 54 (0, 0), true⟩, ⟨b2, .cells (Bs (gB g)).toArray 50 (0, 0), true⟩, ⟨b1, .cells (gtCells (some ad) m c 512 g pr rc).toArray 24 (0, 0), true⟩]) (fun j => i - j) 0 ?_ (fCX (fN _)) ?_
              ·exact ⟨by omega, H.subX⟩
              ·rintro j ρx w19 ⟨hj, H⟩
               refine sq ?_
               refine rg ?_
               refine lss rfl rfl rfl ?_
               refine nl ?_
               refine then_n ?_
               refine sq ?_
               refine cd rfl (fun hc7 => ?_) (fun hc7 => ?_)
               ·obtain ⟨y9, hy9⟩ : ∃ q, ps[j]? = some q := ⟨_, List.getElem?_eq_getElem (by omega)⟩
                refine sk ?_
                refine then_n ?_
                refine sq ?_
                refine bk ?_
                refine sq ?_
                refine rg ?_
                refine iBN (ad.add (j * 8)) rfl rfl Tryz.underlying22 sz54_8 (by omega) (by simp) rfl ?_
                refine lw (vs := y9.cells) rfl ag54_8 rfl (fun j v h => H.fr.cell (hq.elem hy9 j v h) (by simp)) rfl ?_
                refine al H ze54 rfl ?_
                clear H; intro b7 w20 hb7 H _
                refine sa (cs' := y9.cells) H rfl rfl ag54_8 rfl rfl (by decide) (by omega) rfl ?_
                clear H; intro w36 H _
                refine nl ?_
                refine then_n ?_
                refine sq ?_
                refine rg ?_
                refine fa rfl fo54_1 rfl ?_
                refine ld H rfl sc28 rfl rfl ?_
                refine fa rfl fo54_2 rfl ?_
                refine ld H rfl sc28 rfl rfl ?_
                refine leq rfl rfl rfl ?_
                refine mv (v := .bool _) rfl rfl ?_
                refine spd (t := 183) rfl (fun hg17 => ?_) (fun hg17 => ?_)
                ·refine gy rfl ?_
                 refine fa rfl fo54_1 rfl ?_
                 refine gy rfl ?_
                 refine ld H rfl sc28 rfl rfl ?_
                 refine gy rfl ?_
                 refine fa rfl fo54_2 rfl ?_
                 refine gy rfl ?_
                 refine ld H rfl sc28 rfl rfl ?_
                 refine gy rfl ?_
                 refine leq rfl rfl rfl ?_
                 refine pkT (v := .bool _) rfl rfl rfl ?_
                 refine mv (v := .bool _) rfl rfl ?_
                 refine spd (t := 190) rfl (fun hg18 => ?_) (fun hg18 => ?_)
                 ·refine gn rfl rfl ?_
                  refine gn rfl rfl ?_
                  refine gn rfl rfl ?_
                  refine gn rfl rfl ?_
                  refine gn rfl rfl ?_
                  refine pkT (v := .bool _) rfl rfl rfl ?_
                  refine nl ?_
                  refine then_n ?_
                  refine cbT rfl rfl ?_
                  refine sq ?_
                  refine rg ?_
                  refine asg (v := .bool _) rfl rfl ?_
                  refine nl ?_
                  refine then_n ?_
                  refine rt ?_
                  refine in_r ?_
                  refine then_r ?_
                  refine loop_r ?_
                  refine in_r ?_
                  refine in_r ?_
                  refine then_r ?_
                  refine loop_r ?_
                  refine in_r ?_
                  refine then_r ?_
                  refine fin_r ?_
                  exact ⟨false, rfl, H.fr, fun h => by exact Bool.noConfusion h⟩
                 ·refine gy rfl ?_
                  refine fa rfl fo54_6 rfl ?_
                  refine gy rfl ?_
                  refine ld H rfl sc9 rfl rfl ?_
                  refine gy rfl ?_
                  refine fa rfl fo54_6 rfl ?_
                  refine gy rfl ?_
                  refine ld H rfl sc9 rfl rfl ?_
                  refine gy rfl ?_
                  refine cl ca23 (c_sameGuid _ _ _) rfl ?_
                  rintro _ w21 ⟨rfl, F⟩
                  replace H := H.keep F; clear F
                  refine pkF (v := .bool _) rfl rfl rfl ?_
                  refine nl ?_
                  refine then_n ?_
                  refine cn rfl (fun hc8 => ?_) (fun hc8 => ?_)
                  ·refine sq ?_
                   refine rg ?_
                   refine asg (v := .bool _) rfl rfl ?_
                   refine nl ?_
                   refine then_n ?_
                   refine rt ?_
                   refine in_r ?_
                   refine then_r ?_
                   refine loop_r ?_
                   refine in_r ?_
                   refine in_r ?_
                   refine then_r ?_
                   refine loop_r ?_
                   refine in_r ?_
                   refine then_r ?_
                   refine fin_r ?_
                   exact ⟨false, rfl, H.fr, fun h => by exact Bool.noConfusion h⟩
                  ·refine sk ?_
                   refine in_n ?_
                   refine then_n ?_
                   refine rg ?_
                   refine add rfl rfl (by first | exact w_i64 (by omega) | exact w_i64 (rng_i64 _) | rfl) rfl ?_
                   refine mv (v := .int .i64 _) rfl rfl ?_
                   refine nl ?_
                   refine loop_n ?_
                   exact ⟨j + 1, (by (try dsimp only); omega), ⟨by omega, H.subX⟩, (fCX (fN _)), agX⟩
                ·refine gn rfl rfl ?_
                 refine gn rfl rfl ?_
                 refine gn rfl rfl ?_
                 refine gn rfl rfl ?_
                 refine gn rfl rfl ?_
                 refine pkF (v := .bool _) rfl rfl rfl ?_
                 refine mv (v := .bool _) rfl rfl ?_
                 refine gy rfl ?_
                 refine fa rfl fo54_6 rfl ?_
                 refine gy rfl ?_
                 refine ld H rfl sc9 rfl rfl ?_
                 refine gy rfl ?_
                 refine fa rfl fo54_6 rfl ?_
                 refine gy rfl ?_
                 refine ld H rfl sc9 rfl rfl ?_
                 refine gy rfl ?_
                 refine cl ca23 (c_sameGuid _ _ _) rfl ?_
                 rintro _ w22 ⟨rfl, F⟩
                 replace H := H.keep F; clear F
                 refine pkF (v := .bool _) rfl rfl rfl ?_
                 refine nl ?_
                 refine then_n ?_
                 refine cn rfl (fun hc9 => ?_) (fun hc9 => ?_)
                 ·refine sq ?_
                  refine rg ?_
                  refine asg (v := .bool _) rfl rfl ?_
                  refine nl ?_
                  refine then_n ?_
                  refine rt ?_
                  refine in_r ?_
                  refine then_r ?_
                  refine loop_r ?_
                  refine in_r ?_
                  refine in_r ?_
                  refine then_r ?_
                  refine loop_r ?_
                  refine in_r ?_
                  refine then_r ?_
                  refine fin_r ?_
                  exact ⟨false, rfl, H.fr, fun h => by exact Bool.noConfusion h⟩
                 ·refine sk ?_
                  refine in_n ?_
                  refine then_n ?_
                  refine rg ?_
                  refine add rfl rfl (by first | exact w_i64 (by omega) | exact w_i64 (rng_i64 _) | rfl) rfl ?_
                  refine mv (v := .int .i64 _) rfl rfl ?_
                  refine nl ?_
                  refine loop_n ?_
                  exact ⟨j + 1, (by (try dsimp only); omega), ⟨by omega, H.subX⟩, (fCX (fN _)), agX⟩
               ·refine ex ?_
                refine then_e ?_
                refine loop_e ?_
                refine in_hit rfl ?_
                refine in_n ?_
                refine then_n ?_
                refine rg ?_
                refine add rfl rfl (by first | exact w_i64 (by omega) | exact w_i64 (rng_i64 _) | rfl) rfl ?_
                refine mv (v := .int .i64 _) rfl rfl ?_
                refine nl ?_
                refine loop_n ?_
                exact ⟨i + 1, (by (try dsimp only); omega), ⟨by omega, all_next hs hpi ⟨q1, q2, q3, q4, q5, hnm, q6, by omega, by omega, by omega, by omega⟩, ordTo_next ho hpi q7, H.subX⟩, (fCX (fN _)), agX⟩
      ·refine ex ?_
       refine then_e ?_
       refine loop_e ?_
       refine in_hit rfl ?_
       refine then_n ?_
       refine sq ?_
       refine rg ?_
       refine asg (v := .bool _) rfl rfl ?_
       refine nl ?_
       refine then_n ?_
       refine rt ?_
       refine fin_r ?_
       exact ⟨true, rfl, H.fr, fun _ => ⟨by simpa using hg1, by omega, all_mem (by omega) hs, ordTo_all (by omega) ho⟩⟩
end Go.Proofs.YthcaejaaalkglaaGreatDoor.X
/- A disk on which a table stands, in both places; what is left of it when bytes are spoilt. -/
namespace Go.Proofs.YthcaejaaalkglaaGreatDoor.X
set_option linter.unusedVariables false
open Go
structure Stands (D : List UInt8) (n : Nat) (g : List UInt8) (ps : List GP) : Prop where
 len : D.length = n * 512
 g1 : hdrGood D 512 = true
 k1 : crcOk D 512 = true
 f1 : fld D 584 8 = 2 ∧ fld D 592 4 = 128 ∧ fld D 596 4 = 128
 c1 : fld D 600 4 = crc32 (arrB ps)
 a1 : pcs D 1024 16384 = arrB ps
 u1 : pcs D 568 16 = gB g
 m1 : fld D 536 8 = 1
 o1 : fld D 544 8 = (n : Int) - 1
 i1 : fld D 552 8 = 34
 x1 : fld D 560 8 = (n : Int) - 34
 g2 : hdrGood D (512 * (n - 1)) = true
 k2 : crcOk D (512 * (n - 1)) = true
 f2 : fld D (512 * (n - 1) + 72) 8 = ((n - 33 : Nat) : Int) ∧ fld D (512 * (n - 1) + 80) 4 = 128 ∧ fld D (512 * (n - 1) + 84) 4 = 128
 c2 : fld D (512 * (n - 1) + 88) 4 = crc32 (arrB ps)
 a2 : pcs D (512 * (n - 33)) 16384 = arrB ps
 u2 : pcs D (512 * (n - 1) + 56) 16 = gB g
 m2 : fld D (512 * (n - 1) + 24) 8 = (n : Int) - 1
 i2 : fld D (512 * (n - 1) + 40) 8 = 34
 pr : protB (pcs D 0 512) ((n : Int) - 1) = true
theorem laid_first {a o e n c : Int} {gu : List UInt8} {D : List UInt8} {A : Nat} (hp : pcs D A 512 = hdrB a o e n gu c) (h : gu.length = 16) : fld D (A + 40) 8 = 34 := by
 have P : pcs D (A + 40) 8 = pcs (hdrB a o e n gu c) 40 8 := by rw [← hp, pcsA (by decide)]
 unfold fld
 rw [P, show pcs (hdrB a o e n gu c) 40 8 = leB 8 34 from hf40 h]
 decide
theorem stands_of {D : List UInt8} {n : Nat} {g : List UInt8} {ps : List GP} (hn : 80 ≤ n ∧ n ≤ 1000000) (hl : D.length = n * 512) (e1 : pcs D 512 512 = encHdr n g ps) (e2 : pcs D 1024 16384 = arrB ps) (e3 : pcs D ((n - 33) * 512) 16384 = arrB ps) (e4 : pcs D ((n - 1) * 512) 512 = encHdr2 n g ps) (hp : protB (pcs D 0 512) ((n : Int) - 1) = true) : Stands D n g ps := by
 have hc := hdrS_rng (arrB ps)
 rw [Nat.mul_comm] at e3 e4
 have z1 := laid_first (D := D) (A := 512) e1 (gB_len g)
 have z2 := laid_first (D := D) (A := 512 * (n - 1)) e4 (gB_len g)
 obtain ⟨p1, p2, p3, p4, p5, p6, p7, p8, p9⟩ := laid_hdr (D := D) (A := 512) e1 (gB_len g) (by decide) (by omega) (by decide) (by omega) hc
 obtain ⟨q1, q2, q3, q4, q5, q6, q7, q8, q9⟩ := laid_hdr (D := D) (A := 512 * (n - 1)) e4 (gB_len g) (by omega) (by decide) (by omega) (by omega) hc
 exact ⟨hl, p1, p9, p2, p3, e2, p7, p4, p5, z1, p6, q1, q9, ⟨by rw [q2.1]; omega, q2.2⟩, q3, e3, q7, q4, z2, hp⟩
theorem stands_enc {ds : List UInt8} {n : Nat} {g : List UInt8} {ps : List GP} (hn : 80 ≤ n ∧ n ≤ 1000000) (hd : ds.length = n * 512) (hf : ∀ p ∈ ps, p.fits) : Stands (encB ds n g ps) n g ps := by
 obtain ⟨e1, e2, e3, e4, _⟩ := enc_at (gu := g) hn.1 hd hf (prot_len hd hn.1)
 exact stands_of hn (laid_len hn hd hf) e1 e2 e3 e4 (prot_laid hn hd hf)
section stands
variable {D : List UInt8} {n : Nat} {g : List UInt8} {ps : List GP}
theorem Stands.read (S : Stands D n g ps) (hn : 80 ≤ n ∧ n ≤ 1000000) :
  (hdrGood D 512 && decide (fld D 600 4 = crc32 (pcs D 1024 16384))) = true ∧
  (hdrGood D 512 = true → fld D 584 8 = 2 ∧ fld D 592 4 = 128 ∧ fld D 596 4 = 128) ∧
  (hdrGood D (512 * (n - 1)) = true → fld D (512 * (n - 1) + 72) 8 = ((n - 33 : Nat) : Int) ∧ fld D (512 * (n - 1) + 80) 4 = 128 ∧ fld D (512 * (n - 1) + 84) 4 = 128) ∧
  fitsB D 512 512 = true ∧ fitsB D 512 (512 * (n - 1)) = true ∧
  protB (pcs D 0 512) (fld D 544 8 % 4294967296) = true := by
 refine ⟨by rw [S.g1, S.c1, S.a1]; simp, fun _ => S.f1, fun _ => S.f2, laid_fits (by rw [S.f1.1]; decide) S.f1.2.1 S.f1.2.2, laid_fits (by rw [S.f2.1]; omega) S.f2.2.1 S.f2.2.2, ?_⟩
 rw [S.o1, Int.emod_eq_of_lt (by omega) (by omega)]
 exact S.pr
theorem Stands.read2 (S : Stands D n g ps) (hn : 80 ≤ n ∧ n ≤ 1000000) : (hdrGood D (512 * (n - 1)) && decide (fld D (512 * (n - 1) + 24) 8 = ((n - 1 : Nat) : Int)) && decide (fld D (512 * (n - 1) + 88) 4 = crc32 (pcs D (512 * (n - 33)) 16384))) = true ∧ protB (pcs D 0 512) (fld D (512 * (n - 1) + 24) 8 % 4294967296) = true := by
 refine ⟨?_, ?_⟩
 ·rw [S.g2, S.c2, S.a2, S.m2, decide_eq_true (p := (n : Int) - 1 = ((n - 1 : Nat) : Int)) (by omega)]; simp
 ·rw [S.m2, Int.emod_eq_of_lt (by omega) (by omega)]; exact S.pr
theorem Stands.one (S : Stands D n g ps) (hn : 80 ≤ n ∧ n ≤ 1000000) {q : Nat} {c : UInt8} (hq : (512 ≤ q ∧ q < 604) ∨ (1024 ≤ q ∧ q < 17408)) (hc : D[q]? ≠ some c) :
  (D.set q c).length = n * 512 ∧
  (hdrGood (D.set q c) 512 && decide (fld (D.set q c) 600 4 = crc32 (pcs (D.set q c) 1024 16384))) = false ∧
  (hdrGood (D.set q c) (512 * (n - 1)) && decide (fld (D.set q c) (512 * (n - 1) + 24) 8 = ((n - 1 : Nat) : Int)) && decide (fld (D.set q c) (512 * (n - 1) + 88) 4 = crc32 (pcs (D.set q c) (512 * (n - 33)) 16384))) = true ∧
  (hdrGood (D.set q c) 512 = true → fld (D.set q c) 584 8 = 2 ∧ fld (D.set q c) 592 4 = 128 ∧ fld (D.set q c) 596 4 = 128) ∧
  (hdrGood (D.set q c) (512 * (n - 1)) = true → fld (D.set q c) (512 * (n - 1) + 72) 8 = ((n - 33 : Nat) : Int) ∧ fld (D.set q c) (512 * (n - 1) + 80) 4 = 128 ∧ fld (D.set q c) (512 * (n - 1) + 84) 4 = 128) ∧
  fitsB (D.set q c) 512 512 = true ∧ fitsB (D.set q c) 512 (512 * (n - 1)) = true ∧
  pcs (D.set q c) (512 * (n - 1) + 56) 16 = gB g ∧ protB (pcs (D.set q c) 0 512) (fld (D.set q c) (512 * (n - 1) + 24) 8 % 4294967296) = true ∧
  pcs (D.set q c) (512 * (n - 33)) 16384 = arrB ps := by
 have hl := S.len
 obtain ⟨r1, r2, r3, r4, r5, r6⟩ := S.read hn
 obtain ⟨b1, b2⟩ := S.read2 hn
 obtain ⟨s1, s2, s3⟩ := spoil (ds := D) (A := 512) (R := 1024) (q := q) (c := c) (by omega) (by omega) (by omega) hq hc S.k1 (by rw [S.a1]; exact S.c1)
 have hA : q < 512 * (n - 1) ∨ 512 * (n - 1) + 92 ≤ q := by omega
 refine ⟨by rw [List.length_set, hl], ?_, ?_, fun h => ?_, fun h => ?_, s3 r4, ?_, ?_, ?_, ?_⟩
 ·rcases s1 with h | h
  ·rw [h]; rfl
  ·rw [decide_eq_false (p := fld (D.set q c) 600 4 = crc32 (pcs (D.set q c) 1024 16384)) h, Bool.and_false]
 ·rw [(hdr_out hA).1, fld_set_out (by omega), fld_set_out (by omega), pcs_set_out (by omega)]; exact b1
 ·obtain ⟨_, t⟩ := s2 h
  rw [t 584 8 (by decide) (by decide), t 592 4 (by decide) (by decide), t 596 4 (by decide) (by decide)]; exact S.f1
 ·rw [fld_set_out (by omega), fld_set_out (by omega), fld_set_out (by omega)]; exact S.f2
 ·rw [fits_out hA]; exact r5
 ·rw [pcs_set_out (by omega)]; exact S.u2
 ·rw [pcs_set_out (by omega), fld_set_out (by omega)]; exact b2
 ·rw [pcs_set_out (by omega)]; exact S.a2
theorem Stands.two (S : Stands D n g ps) (hn : 80 ≤ n ∧ n ≤ 1000000) {q p : Nat} {c d : UInt8} (hq : (512 ≤ q ∧ q < 604) ∨ (1024 ≤ q ∧ q < 17408)) (hc : D[q]? ≠ some c) (hp : (512 * (n - 1) ≤ p ∧ p < 512 * (n - 1) + 92) ∨ (512 * (n - 33) ≤ p ∧ p < 512 * (n - 33) + 16384)) (hd : (D.set q c)[p]? ≠ some d) :
  ((D.set q c).set p d).length = n * 512 ∧
  (hdrGood ((D.set q c).set p d) 512 && decide (fld ((D.set q c).set p d) 600 4 = crc32 (pcs ((D.set q c).set p d) 1024 16384))) = false ∧
  (hdrGood ((D.set q c).set p d) (512 * (n - 1)) && decide (fld ((D.set q c).set p d) (512 * (n - 1) + 24) 8 = ((n - 1 : Nat) : Int)) && decide (fld ((D.set q c).set p d) (512 * (n - 1) + 88) 4 = crc32 (pcs ((D.set q c).set p d) (512 * (n - 33)) 16384))) = false ∧
  (hdrGood ((D.set q c).set p d) 512 = true → fld ((D.set q c).set p d) 584 8 = 2 ∧ fld ((D.set q c).set p d) 592 4 = 128 ∧ fld ((D.set q c).set p d) 596 4 = 128) ∧
  (hdrGood ((D.set q c).set p d) (512 * (n - 1)) = true → fld ((D.set q c).set p d) (512 * (n - 1) + 72) 8 = ((n - 33 : Nat) : Int) ∧ fld ((D.set q c).set p d) (512 * (n - 1) + 80) 4 = 128 ∧ fld ((D.set q c).set p d) (512 * (n - 1) + 84) 4 = 128) ∧
  fitsB ((D.set q c).set p d) 512 512 = true ∧ fitsB ((D.set q c).set p d) 512 (512 * (n - 1)) = true := by
 have hl := S.len
 obtain ⟨t0, t1, t2, t3, t4, t5, t6, t7, t8, t9⟩ := S.one hn hq hc
 have hA : q < 512 * (n - 1) ∨ 512 * (n - 1) + 92 ≤ q := by omega
 have k2 : crcOk (D.set q c) (512 * (n - 1)) = true := by rw [(hdr_out hA).2.2]; exact S.k2
 obtain ⟨s1, s2, s3⟩ := spoil (ds := D.set q c) (A := 512 * (n - 1)) (R := 512 * (n - 33)) (q := p) (c := d) (by omega) (by omega) (by omega) hp hd k2 (by rw [t9, fld_set_out (by omega)]; exact S.c2)
 have hB : p < 512 ∨ 512 + 92 ≤ p := by omega
 refine ⟨by rw [List.length_set, t0], ?_, ?_, fun h => ?_, fun h => ?_, ?_, s3 t6⟩
 ·rw [(hdr_out hB).1, fld_set_out (by omega), pcs_set_out (by omega)]; exact t1
 ·rcases s1 with h | h
  ·rw [h]; simp
  ·rw [decide_eq_false (p := fld ((D.set q c).set p d) (512 * (n - 1) + 88) 4 = crc32 (pcs ((D.set q c).set p d) (512 * (n - 33)) 16384)) h, Bool.and_false]
 ·have e := t3 (by rw [← (hdr_out hB).1]; exact h)
  rw [← fld_set_out (q := p) (c := d) (by omega), ← fld_set_out (p := 592) (q := p) (c := d) (by omega), ← fld_set_out (p := 596) (q := p) (c := d) (by omega)] at e
  exact e
 ·obtain ⟨t, u⟩ := s2 h
  rw [u _ 8 (by omega) (by omega), u _ 4 (by omega) (by omega), u _ 4 (by omega) (by omega)]
  exact t4 t
 ·rw [fits_out hB]; exact t5
end stands
end Go.Proofs.YthcaejaaalkglaaGreatDoor.X
/- Tables of the package's own kind, made of tables of the statements'. -/
namespace Go.Proofs.YthcaejaaalkglaaGreatDoor.X
set_option linter.unusedVariables false
open Go Go.RowKit
def pcW (p : GP) : List Value := p.cells ++ [.int .i64 0, .int .i64 0]
def tbZ (D : Option Addr) (m c : Nat) (g : List UInt8) (pr rb : Bool) : List Value := tbC D m c 512 512 g pr rb 0 0 0 0 0 0 0 0 false
end Go.Proofs.YthcaejaaalkglaaGreatDoor.X
/- Walks of functions, printed by a program of this claim. -/
namespace Go.Proofs.YthcaejaaalkglaaGreatDoor.X
set_option linter.unusedVariables false
set_option linter.unusedSimpArgs false
open Go Go.RowKit
namespace PF
theorem fo24_4 : fieldOff Tryz.prog 24 4 = some 4 := by kernel_rfl
end PF
open PF
end Go.Proofs.YthcaejaaalkglaaGreatDoor.X
/- What is written of identifiers and partitions. -/
namespace Go.Proofs.YthcaejaaalkglaaGreatDoor.X
set_option linter.unusedVariables false
set_option linter.unusedSimpArgs false
open Go Go.RowKit
def parP (s : List UInt8) (i : Nat) : List UInt8 := (tPos.take i).map (byteAt s) ++ List.replicate (16 - i) 0
theorem parP_end (s : List UInt8) : parP s 16 = parB s := by unfold parP parB; simp; rfl
theorem parP_len (s : List UInt8) {i : Nat} (h : i ≤ 16) : (parP s i).length = 16 := by
 unfold parP
 rw [List.length_append, List.length_map, List.length_take, List.length_replicate]
 have : tPos.length = 16 := rfl
 omega
theorem parP_step (s : List UInt8) {i : Nat} (h : i < 16) : (parP s i).set i (byteAt s (tPos.getD i 0)) = parP s (i + 1) := by
 have ht : tPos.length = 16 := rfl
 unfold parP
 have e : tPos[i]? = some (tPos.getD i 0) := by
  rw [List.getD_eq_getElem?_getD, List.getElem?_eq_getElem (by omega)]; rfl
 have hl : ((tPos.take i).map (byteAt s)).length = i := by rw [List.length_map, List.length_take]; omega
 rw [List.set_append_right _ _ (by omega), hl, Nat.sub_self, take_succ_get e, List.map_append, List.append_assoc]
 congr 1
 rw [show 16 - i = (16 - (i + 1)) + 1 by omega, List.replicate_succ]
 rfl
theorem tpos_get {k : Nat} (h : k < 16) : (tPos.map fun (k : Nat) => Value.int .i64 (k : Int))[k]? = some (.int .i64 ((tPos.getD k 0 : Nat) : Int)) := by
 have ht : tPos.length = 16 := rfl
 rw [List.getElem?_map, List.getD_eq_getElem?_getD, List.getElem?_eq_getElem (by omega)]; rfl
theorem tpos_lt : ∀ k : Fin 16, tPos.getD k.val 0 + 1 < 36 ∧ dashB (tPos.getD k.val 0) = false ∧ dashB (tPos.getD k.val 0 + 1) = false := by decide +kernel
theorem nib_rng {s : List UInt8} (h : gOk s = true) {j : Nat} (hj : j < 36) (hd : dashB j = false) : 0 ≤ nib s j ∧ nib s j ≤ 15 := by
 have := (gOk_at h).2 j hj
 unfold okAt at this
 rw [hd] at this
 simp at this
 exact ⟨this, (hexN_rng _).2⟩
theorem dash_at {s : List UInt8} (h : gOk s = true) {j : Nat} (hj : j < 36) (hd : dashB j = true) : ((s.getD j 0).toNat : Int) = 45 := by
 have := (gOk_at h).2 j hj
 unfold okAt at this
 rw [hd, if_pos rfl] at this
 have h2 := beq_iff_eq.1 this
 omega
theorem or_i64 {x y : Int} (hx : 0 ≤ x ∧ x ≤ 15) (hy : 0 ≤ y ∧ y ≤ 15) : bits .or .i64 (x * 16) y = x * 16 + y := by
 obtain ⟨a, rfl⟩ := Int.eq_ofNat_of_zero_le hx.1
 obtain ⟨b, rfl⟩ := Int.eq_ofNat_of_zero_le hy.1
 have e : bits .or .i64 ((a : Int) * 16) (b : Int) = IntKind.i64.wrap ((BitVec.ofInt 64 ((a : Int) * 16) ||| BitVec.ofInt 64 (b : Int)).toNat : Int) := rfl
 have h1 : (BitVec.ofInt 64 ((a : Int) * 16)).toNat = a * 2 ^ 4 := by rw [BitVec.toNat_ofInt]; omega
 have h2 : (BitVec.ofInt 64 (b : Int)).toNat = b := by rw [BitVec.toNat_ofInt]; omega
 rw [e, BitVec.toNat_or, h1, h2, Nat.or_comm, or_shift (by omega), w_i64 (by omega)]
 omega
def upG (p : GP) : GP := { p with gu := gT (gB p.gu) }
theorem upG_gB (p : GP) : gB (upG p).gu = gB p.gu := gB_gT (gB_len _)
theorem upG_ok (p : GP) : gOk (upG p).gu = true := (gT_ok (gB_len _)).1
theorem upG_upG (p : GP) : upG (upG p) = upG p := by
 unfold upG; simp only [gB_gT (gB_len _)]
theorem upG_good {n : Nat} {p : GP} (h : p.good n) : (upG p).good n :=
 ⟨h.ty, upG_ok p, h.tz, by
  have := sameG_gTz h.gu h.gz
  exact this, h.un, h.nm, h.ix, h.st, h.en, h.la, h.sz⟩
theorem upG_entB (p : GP) : entB (upG p) = entB p := by
 unfold entB entH
 rw [upG_gB]; rfl
theorem spelt {s : List UInt8} (h : gOk s = true) : upL (sT (parB s)) = gT (gB s) := by
 rw [gB_ok h, ← up_sT (b := gRaw s) (by rw [← gB_ok h]; exact gB_len s), perm_raw]
theorem ty_ne {p : GP} (ht : gOk p.ty = true) (hz : sameG p.ty zG = false) : p.ty ≠ zG := by
 intro e
 rw [e] at hz
 unfold sameG at hz
 rw [gOk_zG] at hz
 simp at hz
theorem gu_ne {s : List UInt8} (h : gOk s = true) : s ≠ [] := by
 intro e; subst e
 exact absurd h (by decide)
end Go.Proofs.YthcaejaaalkglaaGreatDoor.X
