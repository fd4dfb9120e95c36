/- Laws and walks on the road to the statement: P16, GptArr, P17, P18, P19, P20, P21, P22, GptTold, P23. -/
import Derived.Test.YthcaejaaalkglaaM6
/- Walks of functions, printed by a program of this claim. -/
namespace Go.Proofs.Ythcaejaaalkglaa.X
set_option linter.unusedVariables false
set_option linter.unusedSimpArgs false
open Go Go.RowKit

namespace P16
theorem ag114_0 : aggB Try.prog 114 0 = true := by kernel_rfl
theorem ag116_16 : aggB Try.prog 116 16 = true := by kernel_rfl
theorem bo96 : buildOK Try.prog 96 = true := by kernel_rfl
theorem ca47 : callable Try.prog 47 = true := by kernel_rfl
theorem ca48 : callable Try.prog 48 = true := by kernel_rfl
theorem ca49 : callable Try.prog 49 = true := by kernel_rfl
theorem ca50 : callable Try.prog 50 = true := by kernel_rfl
theorem ca55 : callable Try.prog 55 = true := by kernel_rfl
theorem ca56 : callable Try.prog 56 = true := by kernel_rfl
theorem ca61 : callable Try.prog 61 = true := by kernel_rfl
theorem ca62 : callable Try.prog 62 = true := by kernel_rfl
theorem ca63 : callable Try.prog 63 = true := by kernel_rfl
theorem mi22 : elemInfo Try.prog 22 = some (.int .u16 0, 2) := by kernel_rfl
theorem pl96_0 : placeOf Try.prog 96 0 = some (0, 1) := by kernel_rfl
theorem pl96_1 : placeOf Try.prog 96 1 = some (1, 1) := by kernel_rfl
theorem pl96_2 : placeOf Try.prog 96 2 = some (2, 1) := by kernel_rfl
theorem pl96_4 : placeOf Try.prog 96 4 = some (4, 1) := by kernel_rfl
theorem pl96_5 : placeOf Try.prog 96 5 = some (5, 1) := by kernel_rfl
theorem pl96_6 : placeOf Try.prog 96 6 = some (6, 1) := by kernel_rfl
theorem pl96_7 : placeOf Try.prog 96 7 = some (7, 1) := by kernel_rfl
theorem pl96_8 : placeOf Try.prog 96 8 = some (8, 1) := by kernel_rfl
theorem pl96_9 : placeOf Try.prog 96 9 = some (9, 1) := by kernel_rfl
theorem ri22 : rowInfo Try.prog 22 = some ([.int .u16 0], 2) := by kernel_rfl
theorem sz22_1 : sizeB Try.prog 22 1 = true := by kernel_rfl
theorem sz5_1 : sizeB Try.prog 5 1 = true := by kernel_rfl
theorem ze116 : zeroL Try.prog 116 = some [.int .u8 0, .int .u8 0, .int .u8 0, .int .u8 0, .int .u8 0, .int .u8 0, .int .u8 0, .int .u8 0, .int .u8 0, .int .u8 0, .int .u8 0, .int .u8 0, .int .u8 0, .int .u8 0, .int .u8 0, .int .u8 0] := by kernel_rfl
theorem ze22 : zeroL Try.prog 22 = some [.int .u16 0] := by kernel_rfl
theorem ze96 : zeroL Try.prog 96 = some [.int .i64 0, .int .u64 0, .int .u64 0, .int .u64 0, .string ⟨#[]⟩, .string ⟨#[]⟩, .string ⟨#[]⟩, .int .u64 0, .int .i64 0, .int .i64 0] := by kernel_rfl

end P16
open P16

set_option maxRecDepth 100000 in
set_option maxHeartbeats 2000000 in
theorem c_partFrom (w : World) (k : Int) (q o c : Nat) (e : List UInt8) (hR : RB w (some ⟨q, o, none⟩) 128 e) (hc : 128 ≤ c) : Calls Try.prog 59 #[.int .i64 k, .slice (some ⟨q, o, none⟩) 128 c, .int .i64 512, .int .i64 512] w (Ret fun v w' => (∃ A, v = .tuple #[.pointer A, .nilIface] ∧ A.isNone = freeE e ∧ (freeE e = false → ∃ p, A = some ⟨p, 0, none⟩ ∧ w.heap.size ≤ p ∧ w'.heap[p]? = some (.cells (entC k 0 e).toArray 96 (0, 0)))) ∧ Fr [] w w') := by
  refine enter (fun ρ => .tuple #[ρ 8, ρ 9]) Try.func59 rfl rfl rfl (res2 rfl) ?_
  have H := SH.nil w
  have hel := hR.1
  have hp16 : (pcs e 16 16).length = 16 := pcs_len (by omega)
  have hp0 : (pcs e 0 16).length = 16 := pcs_len (by omega)
  refine sq ?_
  refine rg ?_
  refine asg (v := .pointer _) rfl rfl ?_
  refine asg (v := .nilIface) rfl rfl ?_
  refine nl ?_
  refine then_n ?_
  refine sq ?_
  refine sq ?_
  refine rg ?_
  refine mv (v := .slice _ _ _) rfl rfl ?_
  refine lnS rfl Try.underlying23 rfl ?_
  refine neq rfl rfl rfl ?_
  refine nl ?_
  refine then_n ?_
  first | refine cF rfl (by omega) ?_ | refine cbF rfl (by omega) ?_   -- test 1
  refine sk ?_
  refine then_n ?_
  refine sq ?_
  refine sq ?_
  refine dr (by kernel_rfl) ?_   -- region 3
  have H := H.drew
  refine hold (fun _ => True) [] ?_
  refine tk (i := 0) rfl (by kernel_rfl) rfl trivial (fun _ _ => r_mv (v := .slice _ _ _) rfl) ?_
  refine tk (i := 1) rfl (by kernel_rfl) rfl trivial (fun _ _ => r_sllhN (o + 0) (16) (c - 0) rfl rfl rfl Try.underlying23 sz5_1 (by omega) (by omega)) ?_
  refine unfree ?_
  refine fo (i := 2) (by kernel_rfl) rfl rfl ?_
  refine cl ca61 (c_zeroU _) rfl ?_
  rintro _ w1 ⟨b1, rfl, hb1, ho1, F⟩
  replace H := H.new F hb1 ho1; clear F ho1
  refine nl ?_
  refine then_n ?_
  refine fo (i := 3) (by kernel_rfl) rfl rfl ?_
  refine cl ca50 (c_bytesEqual _ _ _ _ _ _ _ (pcs e 0 16) (List.replicate 16 0) (((hR.keep H.fr).drop (k := 0) (by omega)).take (k := 16) (by omega)) (RB.allm H rfl)) rfl ?_
  rintro _ w2 ⟨rfl, F⟩
  replace H := H.keep F; clear F
  refine nl ?_
  refine then_n ?_
  refine dn (by kernel_rfl) ?_
  refine then_n ?_
  first | refine cd rfl (fun hc2 => ?_) (fun hc2 => ?_) | refine cn rfl (fun hc2 => ?_) (fun hc2 => ?_)   -- test 2
  · refine sq ?_
    refine rg ?_
    refine asg (v := .pointer _) rfl rfl ?_
    refine asg (v := .nilIface) rfl rfl ?_
    refine nl ?_
    refine then_n ?_
    refine rt ?_
    refine then_r ?_
    refine fin_r ?_
    exact ⟨⟨none, rfl, (decide_eq_true hc2).symm, fun h => by unfold freeE at h; rw [decide_eq_true hc2] at h; cases h⟩, H.fr⟩
  · refine sk ?_
    refine then_n ?_
    refine sq ?_
    refine rg ?_
    refine mv (v := .slice _ _ _) rfl rfl ?_
    refine sllhN (o + 0) (16) (c - 0) rfl rfl rfl Try.underlying23 sz5_1 (by omega) (by omega) rfl ?_
    refine cl ca49 (c_toUUID _ (some ⟨q, o + 0, none⟩) 16 _ (pcs e 0 16) (((hR.keep H.fr).drop (k := 0) (by omega)).take (k := 16) (by omega)) rfl (by omega) ⟨_, _, rfl⟩) rfl ?_
    rintro _ w3 ⟨b2, cq2, jk2, rfl, hb2, ho2, F⟩
    replace H := H.new F hb2 ho2; clear F ho2
    refine cl ca48 (c_fromBytes _ _ _ _ (permB (pcs e 0 16)) (RB.bj H (permB_len _)) rfl) rfl ?_
    rintro _ w4 ⟨rfl, F⟩
    replace H := H.keep F; clear F
    refine mv (v := .tuple _) rfl rfl ?_
    refine xt rfl rfl rfl ?_
    refine xt rfl rfl rfl ?_
    refine al H ze116 rfl ?_
    clear H; intro b3 w5 hb3 H _
    refine sa (cs' := Bs (permB (pcs e 0 16))) H rfl rfl ag116_16 (by rw [Bs_length, permB_len]) (List.all_eq_true.2 Bs_one) (by decide) (by omega) (List.append_nil _) ?_
    clear H; intro w91 H _
    first | refine asg (v := .nilIface) rfl rfl ?_ | refine asg (v := .iface _ _) rfl rfl ?_ | refine asg rfl rfl ?_
    refine nl ?_
    refine then_n ?_
    refine sq ?_
    refine sq ?_
    refine rg ?_
    first | refine mv (v := .nilIface) rfl rfl ?_ | refine mv (v := .iface _ _) rfl rfl ?_ | refine mv rfl rfl ?_
    first | refine neqI1 rfl Try.underlying70 rfl ?_ | refine neqI0 rfl Try.underlying70 rfl ?_
    refine nl ?_
    refine then_n ?_
    first | refine cF rfl rfl ?_ | refine cbF rfl rfl ?_   -- test 3
    refine sk ?_
    refine then_n ?_
    refine sq ?_
    refine rg ?_
    refine la (vs := Bs (permB (pcs e 0 16))) H rfl ag116_16 (by rw [Bs_length, permB_len]) (by rw [List.drop_zero, List.take_of_length_le (by rw [Bs_length, permB_len]; decide)]) rfl ?_
    refine cl ca56 (c_uuString _ _ (permB_len _)) rfl ?_
    rintro _ w6 ⟨rfl, F⟩
    replace H := H.keep F; clear F
    refine asg (v := .string _) rfl rfl ?_
    refine nl ?_
    refine then_n ?_
    refine sq ?_
    refine rg ?_
    refine mv (v := .slice _ _ _) rfl rfl ?_
    refine sllhN (o + 16) (16) (c - 16) rfl rfl rfl Try.underlying23 sz5_1 (by omega) (by omega) rfl ?_
    refine cl ca49 (c_toUUID _ (some ⟨q, o + 16, none⟩) 16 _ (pcs e 16 16) (((hR.keep H.fr).drop (k := 16) (by omega)).take (k := 16) (by omega)) rfl (by omega) ⟨_, _, rfl⟩) rfl ?_
    rintro _ w7 ⟨b4, cq4, jk4, rfl, hb4, ho4, F⟩
    replace H := H.new F hb4 ho4; clear F ho4
    refine cl ca48 (c_fromBytes _ _ _ _ (permB (pcs e 16 16)) (RB.bj H (permB_len _)) rfl) rfl ?_
    rintro _ w8 ⟨rfl, F⟩
    replace H := H.keep F; clear F
    refine mv (v := .tuple _) rfl rfl ?_
    refine xt rfl rfl rfl ?_
    refine xt rfl rfl rfl ?_
    refine al H ze116 rfl ?_
    clear H; intro b5 w9 hb5 H _
    refine sa (cs' := Bs (permB (pcs e 16 16))) H rfl rfl ag116_16 (by rw [Bs_length, permB_len]) (List.all_eq_true.2 Bs_one) (by decide) (by omega) (List.append_nil _) ?_
    clear H; intro w92 H _
    first | refine asg (v := .nilIface) rfl rfl ?_ | refine asg (v := .iface _ _) rfl rfl ?_ | refine asg rfl rfl ?_
    refine nl ?_
    refine then_n ?_
    refine sq ?_
    refine sq ?_
    refine rg ?_
    first | refine mv (v := .nilIface) rfl rfl ?_ | refine mv (v := .iface _ _) rfl rfl ?_ | refine mv rfl rfl ?_
    first | refine neqI1 rfl Try.underlying70 rfl ?_ | refine neqI0 rfl Try.underlying70 rfl ?_
    refine nl ?_
    refine then_n ?_
    first | refine cF rfl rfl ?_ | refine cbF rfl rfl ?_   -- test 4
    refine sk ?_
    refine then_n ?_
    refine sq ?_
    refine dr (by kernel_rfl) ?_   -- region 12
    have H := H.drew
    refine hold (fun _ => True) [] ?_
    refine tk (i := 1) rfl (by kernel_rfl) rfl trivial (fun _ _ => r_mv (v := .slice _ _ _) rfl) ?_
    refine tk (i := 2) rfl (by kernel_rfl) rfl trivial (fun _ _ => r_sllhN (o + 32) (8) (c - 32) rfl rfl rfl Try.underlying23 sz5_1 (by omega) (by omega)) ?_
    refine unfree ?_
    refine holdH H [] ?_
    refine tk (i := 0) rfl (by kernel_rfl) rfl H (fun w' H => r_lw (vs := []) rfl ag114_0 rfl (by simp)) ?_
    refine fk (i := 3) (by kernel_rfl) rfl rfl rfl ?_
    refine cl ca47 (c_uint64 _ _ _ _ (pcs e 32 8) (((hR.keep H.fr).drop (k := 32) (by omega)).take (k := 8) (by omega)) rfl) rfl ?_
    rintro _ w10 ⟨rfl, F⟩
    replace H := H.keep F; clear F
    refine nl ?_
    refine then_n ?_
    refine ⟨H, ?_⟩
    refine tk (i := 4) rfl (by kernel_rfl) rfl H (fun w' H => r_asg (v := .int .u64 _) rfl) ?_
    refine da (by kernel_rfl) ?_
    refine then_n ?_
    refine sq ?_
    refine dr (by kernel_rfl) ?_   -- region 13
    have H := H.drew
    refine hold (fun _ => True) [] ?_
    refine tk (i := 1) rfl (by kernel_rfl) rfl trivial (fun _ _ => r_mv (v := .slice _ _ _) rfl) ?_
    refine tk (i := 2) rfl (by kernel_rfl) rfl trivial (fun _ _ => r_sllhN (o + 40) (8) (c - 40) rfl rfl rfl Try.underlying23 sz5_1 (by omega) (by omega)) ?_
    refine unfree ?_
    refine holdH H [] ?_
    refine tk (i := 0) rfl (by kernel_rfl) rfl H (fun w' H => r_lw (vs := []) rfl ag114_0 rfl (by simp)) ?_
    refine fk (i := 3) (by kernel_rfl) rfl rfl rfl ?_
    refine cl ca47 (c_uint64 _ _ _ _ (pcs e 40 8) (((hR.keep H.fr).drop (k := 40) (by omega)).take (k := 8) (by omega)) rfl) rfl ?_
    rintro _ w11 ⟨rfl, F⟩
    replace H := H.keep F; clear F
    refine nl ?_
    refine then_n ?_
    refine ⟨H, ?_⟩
    refine tk (i := 4) rfl (by kernel_rfl) rfl H (fun w' H => r_asg (v := .int .u64 _) rfl) ?_
    refine da (by kernel_rfl) ?_
    refine then_n ?_
    refine sq ?_
    refine dr (by kernel_rfl) ?_   -- region 14
    have H := H.drew
    refine hold (fun _ => True) [] ?_
    refine tk (i := 1) rfl (by kernel_rfl) rfl trivial (fun _ _ => r_mv (v := .slice _ _ _) rfl) ?_
    refine tk (i := 2) rfl (by kernel_rfl) rfl trivial (fun _ _ => r_sllhN (o + 48) (8) (c - 48) rfl rfl rfl Try.underlying23 sz5_1 (by omega) (by omega)) ?_
    refine unfree ?_
    refine holdH H [] ?_
    refine tk (i := 0) rfl (by kernel_rfl) rfl H (fun w' H => r_lw (vs := []) rfl ag114_0 rfl (by simp)) ?_
    refine fk (i := 3) (by kernel_rfl) rfl rfl rfl ?_
    refine cl ca47 (c_uint64 _ _ _ _ (pcs e 48 8) (((hR.keep H.fr).drop (k := 48) (by omega)).take (k := 8) (by omega)) rfl) rfl ?_
    rintro _ w12 ⟨rfl, F⟩
    replace H := H.keep F; clear F
    refine nl ?_
    refine then_n ?_
    refine ⟨H, ?_⟩
    refine tk (i := 4) rfl (by kernel_rfl) rfl H (fun w' H => r_asg (v := .int .u64 _) rfl) ?_
    refine da (by kernel_rfl) ?_
    refine then_n ?_
    refine sq ?_
    refine rg ?_
    refine mv (v := .slice _ _ _) rfl rfl ?_
    refine sllN (o + 56) (72) (c - 56) rfl rfl Try.underlying23 sz5_1 (by omega) (by omega) rfl ?_
    refine asg (v := .slice _ _ _) rfl rfl ?_
    refine nl ?_
    refine then_n ?_
    refine sq ?_
    refine rg ?_
    refine mk H rfl rfl Try.underlying79 mi22 (by omega) (by omega) (by omega) (by omega) rfl ?_
    clear H; intro b6 w13 hb6 H _
    refine asg (v := .slice _ _ _) rfl rfl ?_
    refine nl ?_
    refine then_n ?_
    refine ctM (α := Option Addr × Nat) [18, 19, 20, 68, 69, 70, 71, 72, 73, 74, 75, 76, 77, 78, 79, 80, 81, 82, 83, 84, 85, 86] (fun (D, cap) => [(18, .slice D (nmU e).length cap)]) (fun (D, cap) w' => OR 22 1 w [] w' [⟨b5, .cells (Bs (permB (pcs e 16 16))).toArray 116 (0, 0), true⟩] D (nmU e).length cap ((nmU e).map (Value.int .u16))) ?_ ?_   -- cut
    · refine sq ?_
      refine rg ?_
      refine asg (v := .int .i64 _) rfl rfl ?_
      refine nl ?_
      refine then_n ?_
      refine bk ?_
      refine lpM (α := Nat × Option Addr × Nat) [18, 19, 20, 68, 69, 70, 71, 72, 73, 74, 75, 76, 77, 78, 79, 80, 81, 82, 83, 84, 85, 86] (fun (j, D, cap) => [(18, .slice D j cap), (19, .int .i64 (2 * (j : Int)))]) (fun (j, D, cap) w' => j ≤ 36 ∧ (∀ u ∈ (unE e).take j, u ≠ 0) ∧ OR 22 1 w [] w' [⟨b5, .cells (Bs (permB (pcs e 16 16))).toArray 116 (0, 0), true⟩] D j cap (((unE e).take j).map (Value.int .u16))) (fun (j, D, cap) => 36 - j) (0, some ⟨b6, 0, none⟩, 72) ?_ (fC (by first | rfl | exact congrArg (Value.int _) (by first | omega | assumption | (symm; assumption) | (simp; done) | (simp; omega)) | exact congrArg (fun n => Value.slice _ n _) (by first | omega | (simp; done) | (simp; omega))) (fC (by first | rfl | exact congrArg (Value.int _) (by first | omega | assumption | (symm; assumption) | (simp; done) | (simp; omega)) | exact congrArg (fun n => Value.slice _ n _) (by first | omega | (simp; done) | (simp; omega))) (fN _))) ?_   -- loop 1
      · exact ⟨by omega, by simp, OR.made (n := 0) (cur := List.replicate 72 (.int .u16 0)) (H.sub (by repeat (first | exact List.Sublist.refl _ | exact List.nil_sublist _ | apply List.Sublist.cons_cons | apply List.Sublist.cons))) (by omega) (by decide) rfl⟩
      · rintro ⟨j, D, cap⟩ ρx w14 ⟨hj, hz, O⟩
        have H := O.sh
        have hur : 0 ≤ fld e (56 + 2 * j) 2 ∧ fld e (56 + 2 * j) 2 ≤ 65535 := fld_rng2
        refine sq ?_
        refine sq ?_
        refine rg ?_
        refine mv (v := .int .i64 _) rfl rfl ?_
        refine mv (v := .slice _ _ _) rfl rfl ?_
        refine lnS rfl Try.underlying23 rfl ?_
        refine lss rfl rfl rfl ?_
        refine nl ?_
        refine then_n ?_
        first | refine cd rfl (fun hc5 => ?_) (fun hc5 => ?_) | refine cn rfl (fun hc5 => ?_) (fun hc5 => ?_)   -- test 5
        · refine sk ?_
          refine then_n ?_
          refine sq ?_
          refine bk ?_
          refine sq ?_
          refine dr (by kernel_rfl) ?_   -- region 20
          have H := H.drew
          replace O := O.drew
          refine hold (fun _ => True) [] ?_
          refine tk (i := 1) rfl (by kernel_rfl) rfl trivial (fun _ _ => r_mv (v := .slice _ _ _) rfl) ?_
          refine tk (i := 2) rfl (by kernel_rfl) rfl trivial (fun _ _ => r_mv (v := .int .i64 _) rfl) ?_
          refine tk (i := 3) rfl (by kernel_rfl) rfl trivial (fun _ _ => r_mv (v := .int .i64 _) rfl) ?_
          refine tk (i := 4) rfl (by kernel_rfl) rfl trivial (fun _ _ => r_add rfl rfl (by first | exact w_i64 (by omega) | exact w_i64 (rng_i64 _) | rfl)) ?_
          refine tk (i := 5) rfl (by kernel_rfl) rfl trivial (fun _ _ => r_sllhN (o + (56 + 2 * j)) (2) (c - (56 + 2 * j)) rfl rfl rfl Try.underlying23 sz5_1 (by omega) (by omega)) ?_
          refine unfree ?_
          refine holdH H [] ?_
          refine tk (i := 0) rfl (by kernel_rfl) rfl H (fun w' H => r_lw (vs := []) rfl ag114_0 rfl (by simp)) ?_
          refine fk (i := 6) (by kernel_rfl) rfl rfl rfl ?_
          refine cl ca62 (c_uint16 _ _ _ _ (pcs e (56 + 2 * j) 2) (((hR.keep H.fr).drop (k := 56 + 2 * j) (by omega)).take (k := 2) (by omega)) rfl) rfl ?_
          rintro _ w15 ⟨rfl, F⟩
          replace H := H.keep F; replace O := O.keep F; clear F
          refine nl ?_
          refine then_n ?_
          refine ⟨H, ?_⟩
          refine tk (i := 7) rfl (by kernel_rfl) rfl H (fun w' H => r_asg (v := .int .u16 _) rfl) ?_
          refine da (by kernel_rfl) ?_
          refine then_n ?_
          refine sq ?_
          refine sq ?_
          refine rg ?_
          refine mv (v := .int .u16 _) rfl rfl ?_
          refine eql rfl rfl rfl ?_
          refine nl ?_
          refine then_n ?_
          first | refine cd rfl (fun hc6 => ?_) (fun hc6 => ?_) | refine cn rfl (fun hc6 => ?_) (fun hc6 => ?_)   -- test 6
          · have hnu := nmU_at hz (by omega) (by assumption)
            have hnl : (nmU e).length = j := by rw [hnu, take_unE_len (by omega)]
            refine ex ?_
            refine then_e ?_
            refine in_miss rfl ?_
            refine then_e ?_
            refine loop_e ?_
            refine in_hit rfl ?_
            refine then_n ?_
            exact ⟨(D, cap), by rw [hnl, hnu]; exact O, (fC (by first | rfl | exact congrArg (Value.int _) (by first | omega | assumption | (symm; assumption) | (simp; done) | (simp; omega)) | exact congrArg (fun n => Value.slice _ n _) (by first | omega | (simp; done) | (simp; omega))) (fN _)), (by repeat (first | exact Agree.setL rfl Agree.mask | exact Agree.self _ _ | refine Agree.upd rfl ?_ | refine Agree.setL rfl ?_ | refine Agree.mask2 rfl ?_))⟩
          · refine sk ?_
            refine then_n ?_
            refine rg ?_
            refine mv (v := .slice _ _ _) rfl rfl ?_
            refine mv (v := .int .u16 _) rfl rfl ?_
            refine bsl (sz := 1) (out := ?o1) H Try.underlying79 ze22 sz22_1 (by decide) ?f1 rfl ?_
            case f1 =>
              refine FS.one (v := .int .u16 _) rfl rfl rfl (by first | decide | simp) ?_
              exact FS.nil
            intro b7 w16 hb7 H1 F; replace O := O.new F hb7 H1.look; clear H H1 F; have H := O.sh
            refine apO (zs := [.int .u16 0]) [.int .u16 (fld e (56 + 2 * j) 2)] O rfl rfl Try.underlying79 ri22 (by first | rfl | simp) (cells_look H.look) (by simp [Value.oneCell']) (by simp) (by omega) (by unfold maxLen; omega) rfl ?_
            clear O H; intro D9 cp9 w17 O
            have H := O.sh
            refine asg (v := .slice _ _ _) rfl rfl ?_
            refine nl ?_
            refine in_n ?_
            refine then_n ?_
            refine rg ?_
            refine mv (v := .int .i64 _) rfl rfl ?_
            refine add rfl rfl (by first | exact w_i64 (by omega) | exact w_i64 (rng_i64 _) | rfl) rfl ?_
            refine asg (v := .int .i64 _) rfl rfl ?_
            refine nl ?_
            refine loop_n ?_
            exact ⟨(j + 1, D9, cp9), (by (try dsimp only); omega), ⟨by omega, nz_next hz (by omega) (by assumption), by rw [unE_succ (by omega), List.map_append]; exact O.sub (by repeat (first | exact List.Sublist.refl _ | exact List.nil_sublist _ | apply List.Sublist.cons_cons | apply List.Sublist.cons))⟩, (fC (by first | rfl | exact congrArg (Value.int _) (by first | omega | assumption | (symm; assumption) | (simp; done) | (simp; omega)) | exact congrArg (fun n => Value.slice _ n _) (by first | omega | (simp; done) | (simp; omega))) (fC (by first | rfl | exact congrArg (Value.int _) (by first | omega | assumption | (symm; assumption) | (simp; done) | (simp; omega)) | exact congrArg (fun n => Value.slice _ n _) (by first | omega | (simp; done) | (simp; omega))) (fN _))), (by repeat (first | exact Agree.setL rfl Agree.mask | exact Agree.self _ _ | refine Agree.upd rfl ?_ | refine Agree.setL rfl ?_ | refine Agree.mask2 rfl ?_))⟩
        · have hnu := nmU_full hz (by omega)
          have hnl : (nmU e).length = j := by rw [hnu, take_unE_len (by omega)]
          refine ex ?_
          refine then_e ?_
          refine loop_e ?_
          refine in_hit rfl ?_
          refine then_n ?_
          exact ⟨(D, cap), by rw [hnl, hnu]; exact O, (fC (by first | rfl | exact congrArg (Value.int _) (by first | omega | assumption | (symm; assumption) | (simp; done) | (simp; omega)) | exact congrArg (fun n => Value.slice _ n _) (by first | omega | (simp; done) | (simp; omega))) (fN _)), (by repeat (first | exact Agree.setL rfl Agree.mask | exact Agree.self _ _ | refine Agree.upd rfl ?_ | refine Agree.setL rfl ?_ | refine Agree.mask2 rfl ?_))⟩
    · rintro ⟨D, cap⟩ ρx w18 O
      have H := O.sh
      refine sq ?_
      refine rg ?_
      refine mv (v := .slice _ _ _) rfl rfl ?_
      refine cl ca63 (c_Decode _ _ _ _ (nmU e) O.r16 (by have := nmU_len e; omega) nmU_rng) rfl ?_
      rintro _ w19 ⟨DU, capU, rfl, OU⟩
      replace H := H.keep OU.sh.fr; clear O
      refine asg (v := .slice _ _ _) rfl rfl ?_
      refine nl ?_
      refine then_n ?_
      refine sq ?_
      refine rg ?_
      refine mv (v := .slice _ _ _) rfl rfl ?_
      refine cvRO OU rfl Try.underlying129 Try.underlying21 Try.underlying9 rfl ?_
      refine asg (v := .string _) rfl rfl ?_
      refine nl ?_
      refine then_n ?_
      refine sq ?_
      refine rg ?_
      refine mv (v := .int .i64 _) rfl rfl ?_
      refine mv (v := .int .u64 _) rfl rfl ?_
      refine mv (v := .int .u64 _) rfl rfl ?_
      refine mv (v := .string _) rfl rfl ?_
      refine la (vs := Bs (permB (pcs e 16 16))) H rfl ag116_16 (by rw [Bs_length, permB_len]) (by rw [List.drop_zero, List.take_of_length_le (by rw [Bs_length, permB_len]; decide)]) rfl ?_
      refine cl ca56 (c_uuString _ _ (permB_len _)) rfl ?_
      rintro _ w20 ⟨rfl, F⟩
      replace H := H.keep F; clear F
      refine cl ca55 (c_upper _ _ (by have := sTp_len (permB (pcs e 16 16)) 16; unfold sT; omega)) rfl ?_
      rintro _ w21 ⟨rfl, F⟩
      replace H := H.keep F; clear F
      rw [up_sT hp16]
      refine mv (v := .int .u64 _) rfl rfl ?_
      refine mv (v := .string _) rfl rfl ?_
      refine cl ca55 (c_upper _ _ (by have := sTp_len (permB (pcs e 0 16)) 16; unfold sT; omega)) rfl ?_
      rintro _ w22 ⟨rfl, F⟩
      replace H := H.keep F; clear F
      rw [up_sT hp0]
      refine mv (v := .int .i64 _) rfl rfl ?_
      refine mv (v := .int .i64 _) rfl rfl ?_
      refine bu (out := ?o2) ze96 bo96 ?f2 rfl ?_
      case f2 =>
        refine FL.one (v := .int .i64 _) rfl pl96_0 rfl (by first | decide | simp) ?_
        refine FL.one (v := .int .u64 _) rfl pl96_1 rfl (by first | decide | simp) ?_
        refine FL.one (v := .int .u64 _) rfl pl96_2 rfl (by first | decide | simp) ?_
        refine FL.one (v := .string _) rfl pl96_5 rfl (by first | decide | simp) ?_
        refine FL.one (v := .string _) rfl pl96_6 rfl (by first | decide | simp) ?_
        refine FL.one (v := .int .u64 _) rfl pl96_7 rfl (by first | decide | simp) ?_
        refine FL.one (v := .string _) rfl pl96_4 rfl (by first | decide | simp) ?_
        refine FL.one (v := .int .i64 _) rfl pl96_8 rfl (by first | decide | simp) ?_
        refine FL.one (v := .int .i64 _) rfl pl96_9 rfl (by first | decide | simp) ?_
        exact FL.nil
      refine bx (v := .agg _) H rfl rfl rfl ?_
      clear H; intro b8 w23 hb8 H _
      refine asg (v := .pointer _) rfl rfl ?_
      refine asg (v := .nilIface) rfl rfl ?_
      refine nl ?_
      refine then_n ?_
      refine rt ?_
      refine fin_r ?_
      exact ⟨⟨_, rfl, (decide_eq_false hc2).symm, fun _ => ⟨_, rfl, H.ge, H.look⟩⟩, H.fr⟩

end Go.Proofs.Ythcaejaaalkglaa.X
/- The array of entries, read. -/
namespace Go.Proofs.Ythcaejaaalkglaa.X
set_option linter.unusedVariables false
open Go Go.RowKit
def szE (e : List UInt8) : Int := ((fld e 40 8 - fld e 32 8) % 18446744073709551616 + 1) % 18446744073709551616 * 512 % 18446744073709551616
def entA (ar : List UInt8) (j : Nat) : List UInt8 := pcs ar (128 * j) 128
def useJ (ar : List UInt8) (j : Nat) : Option (List Value) := if freeE (entA ar j) then none else some (entC ((j : Int) + 1) (szE (entA ar j)) (entA ar j))
def usedC (ar : List UInt8) (i : Nat) : List (List Value) := (List.range i).filterMap (useJ ar)
theorem usedC_free {ar : List UInt8} {i : Nat} (h : freeE (entA ar i) = true) : usedC ar (i + 1) = usedC ar i := by
  unfold usedC
  rw [List.range_succ, List.filterMap_append]
  simp [useJ, h]
theorem usedC_use {ar : List UInt8} {i : Nat} (h : freeE (entA ar i) = false) : usedC ar (i + 1) = usedC ar i ++ [entC ((i : Int) + 1) (szE (entA ar i)) (entA ar i)] := by
  unfold usedC
  rw [List.range_succ, List.filterMap_append]
  simp [useJ, h]
theorem OR.joinN {e : TypeId} {sz : Nat} {w0 w w' : World} {S : List Nat} {L N : List Ent} {A : Option Addr} {n cap : Nat} {xs : List Value} (O : OR e sz w [] w' N A n cap xs) (H : SH w0 S w L) (hm : ∀ x ∈ N, x.m = true) : OR e sz w0 S w' (L ++ N) A n cap xs := by
  have O2 : OR e sz w0 S w' (N ++ L) A n cap xs := by
    refine ⟨O.len, H.join O.sh hm, ?_⟩
    rcases O.own with h | ⟨b, cur, h1, h2, h3, h4, h5, h6⟩
    · exact .inl h
    · refine .inr ⟨b, cur, h1, h2, h3, h4, h5, ?_⟩
      exact H.join h6 (fun x hx => by
        rcases List.mem_cons.1 hx with rfl | hx
        · rfl
        · exact hm x hx)
  exact O2.perm List.perm_append_comm
theorem SH.wide {w0 w : World} {S : List Nat} {L : List Ent} (H : SH w0 [] w L) : SH w0 S w L :=
  ⟨H.fr.mono (by simp), H.get, H.ap, fun x hx hm => .inr ((H.mu x hx hm).resolve_left (by simp))⟩
theorem OR.wide {e : TypeId} {sz : Nat} {w0 w : World} {S : List Nat} {L : List Ent} {A : Option Addr} {n cap : Nat} {xs : List Value} (O : OR e sz w0 [] w L A n cap xs) : OR e sz w0 S w L A n cap xs :=
  ⟨O.len, O.sh.wide, O.own.imp id fun ⟨b, cur, h1, h2, h3, h4, h5, h6⟩ => ⟨b, cur, h1, h2, h3, h4, h5, h6.wide⟩⟩
theorem ents_m1 {T : TypeId} {l : PL} {p : Nat} {o : Obj} : ∀ x ∈ ((⟨p, o, true⟩ : Ent) :: ents T l), x.m = true := fun x hx => by
  rcases List.mem_cons.1 hx with rfl | hx
  · rfl
  · exact ents_m x hx
theorem nb_t {a b : Bool} (h : b = !a) (h2 : b = true) : a = false := by subst h; simpa using h2
theorem nb_f {a b : Bool} (h : b = !a) (h2 : b = false) : a = true := by subst h; simpa using h2
theorem SH.backS {w w1 w' : World} {S : List Nat} {L : List Ent} (F : Fr S w w1) (K : SH w1 S w' L) : SH w S w' L :=
  ⟨F.then K.fr (fun t ht => .inl ht), K.get, K.ap, fun x hx hm => (K.mu x hx hm).imp id fun h => Nat.le_trans F.size h⟩
theorem OR.backS {e : TypeId} {sz : Nat} {w w1 w' : World} {S : List Nat} {L : List Ent} {A : Option Addr} {n cap : Nat} {xs : List Value} (F : Fr S w w1) (O : OR e sz w1 S w' L A n cap xs) : OR e sz w S w' L A n cap xs :=
  ⟨O.len, O.sh.backS F, O.own.imp id fun ⟨b, cur, h1, h2, h3, h4, h5, h6⟩ => ⟨b, cur, h1, h2, h3, h4, h5, h6.backS F⟩⟩
theorem cell_lt0 {w : World} {ad : Addr} {v : Value} (h : w.cell? ad = some v) : ad.block < w.heap.size := by
  rcases Nat.lt_or_ge ad.block w.heap.size with h1 | h1
  · exact h1
  · exfalso
    unfold World.cell? at h
    rw [Array.getElem?_eq_none h1] at h
    simp at h
theorem RB.lt {w : World} {q o n : Nat} {bs : List UInt8} (h : RB w (some ⟨q, o, none⟩) n bs) (hn : 0 < n) : q < w.heap.size := by
  obtain ⟨ad, e, hc⟩ := h.2 0 hn
  cases e
  have := cell_lt hc
  exact this
theorem pcs0 {ds : List UInt8} {n p k : Nat} (h : p + k ≤ n) : pcs (pcs ds 0 n) p k = pcs ds p k := by rw [pcs_pcs h, Nat.zero_add]
theorem fld0 {ds : List UInt8} {n p k : Nat} (h : p + k ≤ n) : fld (pcs ds 0 n) p k = fld ds p k := by unfold fld; rw [pcs0 h]
theorem hdr0 {ds : List UInt8} : hdrGood (pcs ds 0 1024) 512 = hdrGood ds 512 := by
  unfold hdrGood sigOk crcOk
  rw [pcs0 (by decide), pcs0 (by decide), pcs0 (by decide), pcs0 (by decide), pcs0 (by decide), fld0 (by decide)]
theorem pcsA {ds : List UInt8} {a n p k : Nat} (h : p + k ≤ n) : pcs (pcs ds a n) p k = pcs ds (a + p) k := pcs_pcs h
theorem fldA {ds : List UInt8} {a n p k : Nat} (h : p + k ≤ n) : fld (pcs ds a n) p k = fld ds (a + p) k := by unfold fld; rw [pcsA h]
theorem hdrA {ds : List UInt8} {a : Nat} : hdrGood (pcs ds a 512) 0 = hdrGood ds a := by
  unfold hdrGood sigOk crcOk
  rw [pcsA (by decide), pcsA (by decide), pcsA (by decide), pcsA (by decide), pcsA (by decide), fldA (by decide)]
  rfl
section steps
variable {P : Program} {n : Nat} {ops : Array Oper} {Q : Post} {rest : List Oper} {ρ : Env} {w : World} {ty : TypeId} {pos : String} {af : Array Edge} {d : Nat}
/-- A slice's end, which may be all of it. -/
theorem sllX {t e : TypeId} {x lo : Operand} {b o len cap sz : Nat} {k : IntKind} {l : Int} (o' m' c' : Nat) (hx : ev ρ x = .slice (some ⟨b, o, none⟩) len cap) (h1 : ev ρ lo = .int k l) (hu : P.underlying t = some (.slice e)) (hs : sizeB P e sz = true) (hb : 0 ≤ l ∧ l ≤ len ∧ len ≤ cap) (ho : (l = cap → o' = o) ∧ (l ≠ cap → o' = o + l.toNat * sz) ∧ len - l.toNat = m' ∧ cap - l.toNat = c') (hn : Nat.blt d n = true)
    (kk : wl P n ops Q rest (upd ρ d (.slice (some ⟨b, o', none⟩) m' c')) w) : wl P n ops Q (⟨some d, .slice t x (some lo) none none, ty, pos, af, none⟩ :: rest) ρ w := by
  by_cases hc : l = cap
  · obtain rfl := ho.1 hc
    refine val rfl rfl hn ?_ kk
    subst hc
    have e1 : len = cap := by omega
    subst e1
    have h2 : m' = 0 := by have := ho.2.2.1; simp at this; omega
    have h3 : c' = 0 := by have := ho.2.2.2; simp at this; omega
    subst h2; subst h3
    simp [execOp, hx, h1, Instr.sliceAt, run_underlying hu, Instr.slice, Instr.sliceBounds, Instr.sliceBound, asIntOf, run_sizeOf hs]
  · exact sllN o' m' c' hx h1 hu hs ⟨hb.1, hb.2.1, by omega⟩ ⟨(ho.2.1 hc).symm, ho.2.2⟩ hn kk
end steps
end Go.Proofs.Ythcaejaaalkglaa.X
/- Walks of functions, printed by a program of this claim. -/
namespace Go.Proofs.Ythcaejaaalkglaa.X
set_option linter.unusedVariables false
set_option linter.unusedSimpArgs false
open Go Go.RowKit

namespace P17
theorem ca59 : callable Try.prog 59 = true := by kernel_rfl
theorem fo96_1 : fieldOff Try.prog 96 1 = some 1 := by kernel_rfl
theorem fo96_2 : fieldOff Try.prog 96 2 = some 2 := by kernel_rfl
theorem fo96_3 : fieldOff Try.prog 96 3 = some 3 := by kernel_rfl
theorem mi93 : elemInfo Try.prog 93 = some (.pointer none, 8) := by kernel_rfl
theorem ri93 : rowInfo Try.prog 93 = some ([.pointer none], 8) := by kernel_rfl
theorem sc30 : scalarB Try.prog 30 = true := by kernel_rfl
theorem sz5_1 : sizeB Try.prog 5 1 = true := by kernel_rfl
theorem sz93_1 : sizeB Try.prog 93 1 = true := by kernel_rfl
theorem ze93 : zeroL Try.prog 93 = some [.pointer none] := by kernel_rfl

end P17
open P17

set_option maxRecDepth 100000 in
set_option maxHeartbeats 1000000 in
theorem c_readArr (w : World) (q n c m : Nat) (ar : List UInt8) (hR : RB w (some ⟨q, 0, none⟩) n ar) (hc : n ≤ c) (hn : n = 128 * m) (hm : m ≤ 100000) : Calls Try.prog 45 #[.slice (some ⟨q, 0, none⟩) n c, .int .i64 128, .int .i64 512, .int .i64 512] w (Ret fun v w' => ∃ D cap l, v = .tuple #[.slice D l.length cap, .nilIface] ∧ l.map Prod.snd = usedC ar m ∧ l.length ≤ m ∧ OR 93 1 w [] w' (ents 96 l) D l.length cap (ptrs l)) := by
  refine enter (fun ρ => .tuple #[ρ 8, ρ 9]) Try.func45 rfl rfl rfl (res2 rfl) ?_
  have H := SH.nil w
  have hrl := hR.1
  refine sq ?_
  refine rg ?_
  refine asg (v := .slice _ _ _) rfl rfl ?_
  refine asg (v := .nilIface) rfl rfl ?_
  refine nl ?_
  refine then_n ?_
  refine sq ?_
  refine rg ?_
  refine mk H rfl rfl Try.underlying73 mi93 (by omega) (by omega) (by omega) (by omega) rfl ?_
  clear H; intro b1 w1 hb1 H _
  refine asg (v := .slice _ _ _) rfl rfl ?_
  refine nl ?_
  refine then_n ?_
  refine sq ?_
  refine sq ?_
  refine rg ?_
  refine mv (v := .slice _ _ _) rfl rfl ?_
  refine asg (v := .int .i64 _) rfl rfl ?_
  refine asg (v := .slice _ _ _) rfl rfl ?_
  refine nl ?_
  refine then_n ?_
  refine bk ?_
  refine lpM (α := Nat × Nat × Option Addr × Nat × PL) [8, 9, 10, 11, 12, 13, 14, 15, 18, 19, 20, 21, 22, 23, 24, 25, 26, 27, 28, 29, 30, 31, 32, 33, 34, 35, 36, 37, 38, 39, 40, 41, 42, 43, 44, 45, 46, 47, 48, 49, 50, 51, 52, 53, 54, 55, 56, 57, 58, 59, 60, 61, 62, 63] (fun (i, o, D, cap, l) => [(10, .slice D l.length cap), (11, .int .i64 (i : Int)), (12, .slice (some ⟨q, o, none⟩) (n - 128 * i) (c - 128 * i))]) (fun (i, o, D, cap, l) w' => 128 * i ≤ n ∧ (128 * i < n → o = 128 * i) ∧ l.map Prod.snd = usedC ar i ∧ l.length ≤ i ∧ OR 93 1 w [] w' (ents 96 l) D l.length cap (ptrs l)) (fun (i, o, D, cap, l) => n - 128 * i) (0, 0, some ⟨b1, 0, none⟩, 0, []) ?_ (fC (by first | rfl | exact congrArg (Value.int _) (by first | omega | assumption | (symm; assumption) | (simp; done) | (simp; omega)) | exact congrArg (fun n => Value.slice _ n _) (by first | omega | (simp; done) | (simp; omega))) (fC (by first | rfl | exact congrArg (Value.int _) (by first | omega | assumption | (symm; assumption) | (simp; done) | (simp; omega)) | exact congrArg (fun n => Value.slice _ n _) (by first | omega | (simp; done) | (simp; omega))) (fC (by first | rfl | exact congrArg (Value.int _) (by first | omega | assumption | (symm; assumption) | (simp; done) | (simp; omega)) | exact congrArg (fun n => Value.slice _ n _) (by first | omega | (simp; done) | (simp; omega))) (fN _)))) ?_   -- loop 1
  · exact ⟨by omega, by omega, rfl, by simp, OR.made (n := 0) (cur := List.replicate 0 (.pointer none)) H (by omega) (by decide) rfl⟩
  · rintro ⟨i, o, D, cap, l⟩ ρx w2 ⟨hi, ho, hl, hll, O⟩
    have H := O.sh
    refine sq ?_
    refine sq ?_
    refine rg ?_
    refine mv (v := .slice _ _ _) rfl rfl ?_
    refine lnS rfl Try.underlying23 rfl ?_
    refine mv (v := .int .i64 _) rfl rfl ?_
    refine geq rfl rfl rfl ?_
    refine nl ?_
    refine then_n ?_
    first | refine cd rfl (fun hc1 => ?_) (fun hc1 => ?_) | refine cn rfl (fun hc1 => ?_) (fun hc1 => ?_)   -- test 1
    · obtain rfl : o = 128 * i := ho (by omega)
      refine sk ?_
      refine then_n ?_
      refine sq ?_
      refine bk ?_
      refine sq ?_
      refine rg ?_
      refine mv (v := .slice _ _ _) rfl rfl ?_
      refine mv (v := .int .i64 _) rfl rfl ?_
      refine slhN (128) rfl rfl Try.underlying23 sz5_1 (by omega) (by omega) rfl ?_
      refine asg (v := .slice _ _ _) rfl rfl ?_
      refine nl ?_
      refine then_n ?_
      refine sq ?_
      refine rg ?_
      refine mv (v := .int .i64 _) rfl rfl ?_
      refine add rfl rfl (by first | exact w_i64 (by omega) | exact w_i64 (rng_i64 _) | rfl) rfl ?_
      refine mv (v := .slice _ _ _) rfl rfl ?_
      refine mv (v := .int .i64 _) rfl rfl ?_
      refine mv (v := .int .i64 _) rfl rfl ?_
      refine cl ca59 (c_partFrom _ ((i : Int) + 1) q (128 * i) (c - 128 * i) (entA ar i) (by have e := ((hR.keep H.fr).drop (k := 128 * i) (by omega)).take (k := 128) (by omega); rw [Nat.zero_add] at e; exact e) (by omega)) rfl ?_
      rintro _ w3 ⟨⟨A9, rfl, hno, hso⟩, F⟩
      refine mv (v := .tuple _) rfl rfl ?_
      refine xt rfl rfl rfl ?_
      refine xt rfl rfl rfl ?_
      refine asg (v := .pointer _) rfl rfl ?_
      first | refine asg (v := .nilIface) rfl rfl ?_ | refine asg (v := .iface _ _) rfl rfl ?_ | refine asg rfl rfl ?_
      refine nl ?_
      refine then_n ?_
      refine sq ?_
      refine sq ?_
      refine rg ?_
      first | refine mv (v := .nilIface) rfl rfl ?_ | refine mv (v := .iface _ _) rfl rfl ?_ | refine mv rfl rfl ?_
      first | refine neqI1 rfl Try.underlying70 rfl ?_ | refine neqI0 rfl Try.underlying70 rfl ?_
      refine nl ?_
      refine then_n ?_
      first | refine cF rfl rfl ?_ | refine cbF rfl rfl ?_   -- test 2
      refine sk ?_
      refine then_n ?_
      refine sq ?_
      refine sq ?_
      refine rg ?_
      refine mv (v := .pointer _) rfl rfl ?_
      refine eqlP rfl Try.underlying93 rfl ?_
      refine nl ?_
      refine then_n ?_
      first | refine cd rfl (fun hc3 => ?_) (fun hc3 => ?_) | refine cn rfl (fun hc3 => ?_) (fun hc3 => ?_)   -- test 3
      · replace O := O.keep F; have H := O.sh
        have hfr : freeE (entA ar i) = true := hno.symm.trans hc3
        refine ex ?_
        refine then_e ?_
        refine in_hit rfl ?_
        refine then_n ?_
        refine rg ?_
        refine mv (v := .slice _ _ _) rfl rfl ?_
        refine mv (v := .int .i64 _) rfl rfl ?_
        refine sllX (if c - 128 * i = 128 then 128 * i else 128 * i + 128) (n - 128 * (i + 1)) (c - 128 * (i + 1)) rfl rfl Try.underlying23 sz5_1 (by omega) ⟨fun h => by rw [if_pos (by omega)], fun h => by rw [if_neg (by omega)]; omega, by omega, by omega⟩ rfl ?_
        refine mv (v := .int .i64 _) rfl rfl ?_
        refine add rfl rfl (by first | exact w_i64 (by omega) | exact w_i64 (rng_i64 _) | rfl) rfl ?_
        refine asg (v := .slice _ _ _) rfl rfl ?_
        refine asg (v := .int .i64 _) rfl rfl ?_
        refine nl ?_
        refine loop_n ?_
        exact ⟨(i + 1, (if c - 128 * i = 128 then 128 * i else 128 * i + 128), D, cap, l), (by dsimp only; omega), ⟨by omega, fun h => by rw [if_neg (by omega)]; omega, by rw [hl, usedC_free hfr], by omega, O⟩, (fC (by first | rfl | exact congrArg (Value.int _) (by first | omega | assumption | (symm; assumption) | (simp; done) | (simp; omega)) | exact congrArg (fun n => Value.slice _ n _) (by first | omega | (simp; done) | (simp; omega))) (fC (by first | rfl | exact congrArg (Value.int _) (by first | omega | assumption | (symm; assumption) | (simp; done) | (simp; omega)) | exact congrArg (fun n => Value.slice _ n _) (by first | omega | (simp; done) | (simp; omega))) (fC (by first | rfl | exact congrArg (Value.int _) (by first | omega | assumption | (symm; assumption) | (simp; done) | (simp; omega)) | exact congrArg (fun n => Value.slice _ n _) (by first | omega | (simp; done) | (simp; omega))) (fN _)))), (by repeat (first | exact Agree.setL rfl Agree.mask | exact Agree.self _ _ | refine Agree.upd rfl ?_ | refine Agree.setL rfl ?_ | refine Agree.mask2 rfl ?_))⟩
      · have hfr : freeE (entA ar i) = false := hno.symm.trans hc3
        obtain ⟨p, rfl, hp1, hp2⟩ := hso hfr
        replace O := O.new F hp1 hp2; clear hno hso hp2; have H := O.sh
        refine sk ?_
        refine then_n ?_
        refine sq ?_
        refine dr (by kernel_rfl) ?_   -- region 10
        have H := H.drew
        replace O := O.drew
        refine hold (fun _ => True) [] ?_
        refine tk (i := 0) rfl (by kernel_rfl) rfl trivial (fun _ _ => r_mv (v := .pointer _) rfl) ?_
        refine tk (i := 1) rfl (by kernel_rfl) rfl trivial (fun _ _ => r_mv (v := .pointer _) rfl) ?_
        first | refine tk (i := 2) rfl (by kernel_rfl) rfl trivial (fun _ _ => r_nc rfl) ?_ | refine tk (i := 2) rfl (by kernel_rfl) rfl trivial (fun _ _ => r_nci rfl) ?_
        refine tk (i := 3) rfl (by kernel_rfl) rfl trivial (fun _ _ => r_fa rfl fo96_2) ?_
        refine tk (i := 5) rfl (by kernel_rfl) rfl trivial (fun _ _ => r_mv (v := .pointer _) rfl) ?_
        first | refine tk (i := 6) rfl (by kernel_rfl) rfl trivial (fun _ _ => r_nc rfl) ?_ | refine tk (i := 6) rfl (by kernel_rfl) rfl trivial (fun _ _ => r_nci rfl) ?_
        refine tk (i := 7) rfl (by kernel_rfl) rfl trivial (fun _ _ => r_fa rfl fo96_1) ?_
        refine tk (i := 11) rfl (by kernel_rfl) rfl trivial (fun _ _ => r_mv (v := .int .i64 _) rfl) ?_
        refine tk (i := 12) rfl (by kernel_rfl) rfl trivial (fun _ _ => r_cvi rfl rfl Try.underlying30 (by first | exact w_u64 (by omega) | exact w_u64 (rng_u64 _) | exact m_u64 _)) ?_
        refine unfree ?_
        refine holdH H [16] ?_
        first | refine tk (i := 4) rfl (by kernel_rfl) rfl H (fun w' H => r_ld H rfl sc30 rfl) ?_ | refine tk (i := 4) rfl (by kernel_rfl) rfl H (fun w' H => r_lc rfl (by first | assumption | exact H.fr.cell (by assumption) (by simp)) sc30) ?_ | refine tk (i := 4) rfl (by kernel_rfl) rfl H (fun w' H => r_ld H rfl sc30 (by assumption)) ?_
        first | refine tk (i := 8) rfl (by kernel_rfl) rfl H (fun w' H => r_ld H rfl sc30 rfl) ?_ | refine tk (i := 8) rfl (by kernel_rfl) rfl H (fun w' H => r_lc rfl (by first | assumption | exact H.fr.cell (by assumption) (by simp)) sc30) ?_ | refine tk (i := 8) rfl (by kernel_rfl) rfl H (fun w' H => r_ld H rfl sc30 (by assumption)) ?_
        refine tk (i := 9) rfl (by kernel_rfl) rfl H (fun w' H => r_sub rfl rfl (by first | exact w_u64 (by omega) | exact w_u64 (rng_u64 _) | exact m_u64 _)) ?_
        refine tk (i := 10) rfl (by kernel_rfl) rfl H (fun w' H => r_add rfl rfl (by first | exact w_u64 (by omega) | exact w_u64 (rng_u64 _) | exact m_u64 _)) ?_
        refine tk (i := 13) rfl (by kernel_rfl) rfl H (fun w' H => r_mul rfl rfl (by first | exact w_u64 (by omega) | exact w_u64 (rng_u64 _) | exact m_u64 _)) ?_
        refine fk (i := 14) (by kernel_rfl) rfl rfl rfl ?_
        first | refine nc rfl rfl ?_ | refine nci rfl rfl ?_
        refine nl ?_
        refine then_n ?_
        refine ⟨H, ?_⟩
        refine tk (i := 15) rfl (by kernel_rfl) rfl H (fun w' H => r_fa rfl fo96_3) ?_
        refine fb (i := 16) (by kernel_rfl) rfl rfl rfl ?_
        refine st (v := .int .u64 _) H rfl rfl sc30 rfl (by show 0 + 3 < 10; decide) (by omega) ?_
        intro w95 H1 F; replace O := O.put F H1.look; clear H H1 F; have H := O.sh
        refine nl ?_
        refine then_n ?_
        refine dn (by kernel_rfl) ?_
        refine then_n ?_
        refine rg ?_
        refine mv (v := .slice _ _ _) rfl rfl ?_
        refine mv (v := .pointer _) rfl rfl ?_
        refine bsl (sz := 1) (out := ?o1) H Try.underlying73 ze93 sz93_1 (by decide) ?f1 rfl ?_
        case f1 =>
          refine FS.one (v := .pointer _) rfl rfl rfl (by first | decide | simp) ?_
          exact FS.nil
        intro b2 w4 hb2 H1 F; replace O := O.new F hb2 H1.look; clear H H1 F; have H := O.sh
        refine apO (zs := [.pointer none]) [.pointer (some ⟨p, 0, none⟩)] O rfl rfl Try.underlying73 ri93 (by first | rfl | simp) (cells_look H.look) (by simp [Value.oneCell']) (by simp) (by omega) (by unfold maxLen; omega) rfl ?_
        clear O H; intro D9 cp9 w5 O
        replace O := O.drop; have H := O.sh
        refine asg (v := .slice _ _ _) rfl rfl ?_
        refine nl ?_
        refine in_n ?_
        refine then_n ?_
        refine rg ?_
        refine mv (v := .slice _ _ _) rfl rfl ?_
        refine mv (v := .int .i64 _) rfl rfl ?_
        refine sllX (if c - 128 * i = 128 then 128 * i else 128 * i + 128) (n - 128 * (i + 1)) (c - 128 * (i + 1)) rfl rfl Try.underlying23 sz5_1 (by omega) ⟨fun h => by rw [if_pos (by omega)], fun h => by rw [if_neg (by omega)]; omega, by omega, by omega⟩ rfl ?_
        refine mv (v := .int .i64 _) rfl rfl ?_
        refine add rfl rfl (by first | exact w_i64 (by omega) | exact w_i64 (rng_i64 _) | rfl) rfl ?_
        refine asg (v := .slice _ _ _) rfl rfl ?_
        refine asg (v := .int .i64 _) rfl rfl ?_
        refine nl ?_
        refine loop_n ?_
        exact ⟨(i + 1, (if c - 128 * i = 128 then 128 * i else 128 * i + 128), D9, cp9, l ++ [(p, entC ((i : Int) + 1) (szE (entA ar i)) (entA ar i))]), (by dsimp only; omega), ⟨by omega, fun h => by rw [if_neg (by omega)]; omega, by rw [List.map_append, hl, usedC_use hfr]; rfl, by simp; omega, by rw [ptrs_snoc, List.length_append]; exact O.perm (perm_snoc (x := (p, entC ((i : Int) + 1) (szE (entA ar i)) (entA ar i))) [])⟩, (fC (by first | rfl | exact congrArg (Value.int _) (by first | omega | assumption | (symm; assumption) | (simp; done) | (simp; omega)) | exact congrArg (fun n => Value.slice _ n _) (by first | omega | (simp; done) | (simp; omega))) (fC (by first | rfl | exact congrArg (Value.int _) (by first | omega | assumption | (symm; assumption) | (simp; done) | (simp; omega)) | exact congrArg (fun n => Value.slice _ n _) (by first | omega | (simp; done) | (simp; omega))) (fC (by first | rfl | exact congrArg (Value.int _) (by first | omega | assumption | (symm; assumption) | (simp; done) | (simp; omega)) | exact congrArg (fun n => Value.slice _ n _) (by first | omega | (simp; done) | (simp; omega))) (fN _)))), (by repeat (first | exact Agree.setL rfl Agree.mask | exact Agree.self _ _ | refine Agree.upd rfl ?_ | refine Agree.setL rfl ?_ | refine Agree.mask2 rfl ?_))⟩
    · refine ex ?_
      refine then_e ?_
      refine loop_e ?_
      refine in_hit rfl ?_
      refine then_n ?_
      refine sq ?_
      refine rg ?_
      refine mv (v := .slice _ _ _) rfl rfl ?_
      refine asg (v := .slice _ _ _) rfl rfl ?_
      refine asg (v := .nilIface) rfl rfl ?_
      refine nl ?_
      refine then_n ?_
      refine rt ?_
      refine fin_r ?_
      obtain rfl : i = m := by omega
      exact ⟨_, _, l, rfl, hl, hll, O⟩

end Go.Proofs.Ythcaejaaalkglaa.X
/- Walks of functions, printed by a program of this claim. -/
namespace Go.Proofs.Ythcaejaaalkglaa.X
set_option linter.unusedVariables false
set_option linter.unusedSimpArgs false
open Go Go.RowKit

namespace P18
theorem bo101 : buildOK Try.prog 101 = true := by kernel_rfl
theorem ca37 : callable Try.prog 37 = true := by kernel_rfl
theorem ca43 : callable Try.prog 43 = true := by kernel_rfl
theorem ca44 : callable Try.prog 44 = true := by kernel_rfl
theorem ca45 : callable Try.prog 45 = true := by kernel_rfl
theorem ca82 : callable Try.prog 82 = true := by kernel_rfl
theorem cc87 : Try.prog.concrete 87 = true := by kernel_rfl
theorem fo75_0 : fieldOff Try.prog 75 0 = some 0 := by kernel_rfl
theorem fo75_7 : fieldOff Try.prog 75 7 = some 7 := by kernel_rfl
theorem fo75_9 : fieldOff Try.prog 75 9 = some 9 := by kernel_rfl
theorem me50_ReadAt : ∀ (v : Value) (w : World), (method (Try.prog.types.size + Made.depth) 50 v "ReadAt").run Try.prog w = .ok (82, v) w := fun v w => by kernel_rfl
theorem mi5 : elemInfo Try.prog 5 = some (.int .u8 0, 1) := by kernel_rfl
theorem pl101_0 : placeOf Try.prog 101 0 = some (0, 1) := by kernel_rfl
theorem sc35 : scalarB Try.prog 35 = true := by kernel_rfl
theorem sc73 : scalarB Try.prog 73 = true := by kernel_rfl
theorem ze101 : zeroL Try.prog 101 = some [.nilIface] := by kernel_rfl

end P18
open P18

set_option maxRecDepth 100000 in
set_option maxHeartbeats 1000000 in
theorem c_loadE (w : World) (p f : Nat) (bm bd L c : Nat) (ds : List UInt8) (hm : w.cell? ⟨bm, 0, none⟩ = some (.slice (some ⟨bd, 0, none⟩) L c)) (hd : RB w (some ⟨bd, 0, none⟩) L ds) (hL : 512 ≤ L ∧ L ≤ 1000000000) (hLc : L ≤ c) (g : List UInt8) (pr rb ini : Bool) (crc my oth fi la : Int) (hp : w.heap[p]? = some (.cells (tbC none 0 0 512 512 g pr rb 128 128 (f : Int) crc my oth fi la ini).toArray 75 (0, 0))) (hne : p ≠ bm ∧ p ≠ bd) (hf : 512 * f + 16384 ≤ L) : Calls Try.prog 40 #[.iface 50 (.pointer (some ⟨bm, 0, none⟩)), .pointer (some ⟨p, 0, none⟩), .int .i64 512, .int .i64 512] w (Ret fun v w' => Fr [p] w w' ∧ ∃ A e, v = .tuple #[.pointer A, e] ∧ Ifc e ∧ isIf e = !(decide (crc = crc32 (pcs ds (512 * f) 16384))) ∧ (crc ≠ crc32 (pcs ds (512 * f) 16384) → ∃ x, e = .iface 87 (.pointer x)) ∧ (crc = crc32 (pcs ds (512 * f) 16384) → A = some ⟨p, 0, none⟩ ∧ ∃ D cap l, l.map Prod.snd = usedC ((pcs ds (512 * f) 16384)) 128 ∧ l.length ≤ 128 ∧ OR 93 1 w [p] w' (⟨p, .cells (tbC D l.length cap 512 512 g pr rb 128 128 (f : Int) crc my oth fi la ini).toArray 75 (0, 0), true⟩ :: ents 96 l) D l.length cap (ptrs l))) := by
  refine enter (fun ρ => .tuple #[ρ 8, ρ 9]) Try.func40 rfl rfl rfl (res2 rfl) ?_
  have H := SH.rw1 hp
  have hbm := cell_lt0 hm
  have hbd := hd.lt (by omega)
  have hdl := hd.1
  have hal : (pcs ds (512 * f) 16384).length = 16384 := pcs_len (by omega)
  refine sq ?_
  refine rg ?_
  refine asg (v := .pointer _) rfl rfl ?_
  refine asg (v := .nilIface) rfl rfl ?_
  refine nl ?_
  refine then_n ?_
  refine sq ?_
  refine rg ?_
  refine mv (v := .pointer _) rfl rfl ?_
  refine cl ca43 (c_calcLoc _ p (f : Int) 512 128 128 (cell_at (H.look (b := p))) (cell_at (H.look (b := p))) (cell_at (H.look (b := p))) (cell_at (H.look (b := p))) (by omega) (by decide) ((512 * f : Nat) : Int) 16384 (by omega) rfl (by omega) (by decide)) rfl ?_
  rintro _ w1 ⟨rfl, F⟩
  replace H := H.keep F; clear F
  refine mv (v := .tuple _) rfl rfl ?_
  refine xt rfl rfl rfl ?_
  refine xt rfl rfl rfl ?_
  refine asg (v := .int .i64 _) rfl rfl ?_
  refine asg (v := .int .i64 _) rfl rfl ?_
  refine nl ?_
  refine then_n ?_
  refine sq ?_
  refine rg ?_
  skip
  refine mv (v := .int .i64 _) rfl rfl ?_
  have hsz := H.size
  refine mkB H rfl rfl Try.underlying23 mi5 (by omega) (by omega) (by omega) (by omega) rfl ?_
  clear H; intro b1 w2 hb1 H _
  refine asg (v := .slice _ _ _) rfl rfl ?_
  refine nl ?_
  refine then_n ?_
  refine sq ?_
  refine rg ?_
  first | refine mv (v := .nilIface) rfl rfl ?_ | refine mv (v := .iface _ _) rfl rfl ?_ | refine mv rfl rfl ?_
  refine mv (v := .slice _ _ _) rfl rfl ?_
  refine mv (v := .int .i64 _) rfl rfl ?_
  refine mc rfl me50_ReadAt ca82 (c_readAt _ bm bd b1 L c (512 * f) 0 16384 16384 _ ds (List.replicate 16384 0) (H.fr.cell hm (by simpa using Ne.symm hne.1)) (hd.now H.fr (by simpa using Ne.symm hne.2)) (H.look (b := b1)) ⟨fun h => by simp at hbm; omega, fun h => by omega⟩ (by omega) (by omega) (by decide) (by rw [List.length_replicate]; decide) (by omega)) rfl ?_
  rintro _ w3 ⟨rfl, F, hnew⟩
  replace H := H.put (b := b1) F hnew; clear F hnew
  replace H := sh_cells0 H (congrArg Bs (pAt_all (by rw [hal, List.length_replicate])))
  refine mv (v := .tuple _) rfl rfl ?_
  refine xt rfl rfl rfl ?_
  refine xt rfl rfl rfl ?_
  refine asg (v := .int .i64 _) rfl rfl ?_
  first | refine asg (v := .nilIface) rfl rfl ?_ | refine asg (v := .iface _ _) rfl rfl ?_ | refine asg rfl rfl ?_
  refine nl ?_
  refine then_n ?_
  refine sq ?_
  refine sq ?_
  refine rg ?_
  first | refine mv (v := .nilIface) rfl rfl ?_ | refine mv (v := .iface _ _) rfl rfl ?_ | refine mv rfl rfl ?_
  first | refine neqI1 rfl Try.underlying70 rfl ?_ | refine neqI0 rfl Try.underlying70 rfl ?_ | refine neqIG rfl Try.underlying70 (by assumption) rfl ?_
  refine nl ?_
  refine then_n ?_
  first | refine cF rfl rfl ?_ | refine cbF rfl rfl ?_   -- test 1
  refine sk ?_
  refine then_n ?_
  refine sq ?_
  refine sq ?_
  refine rg ?_
  refine mv (v := .int .i64 _) rfl rfl ?_
  refine mv (v := .slice _ _ _) rfl rfl ?_
  refine lnS rfl Try.underlying23 rfl ?_
  refine neq rfl rfl rfl ?_
  refine nl ?_
  refine then_n ?_
  first | refine cF rfl (by omega) ?_ | refine cbF rfl (by omega) ?_   -- test 2
  refine sk ?_
  refine then_n ?_
  refine sq ?_
  refine rg ?_
  refine mv (v := .slice _ _ _) rfl rfl ?_
  refine cl ca44 (c_zzCrc _ _ _ _ (pcs ds (512 * f) 16384) (RB.allm (b := b1) H hal) (by decide)) rfl ?_
  rintro _ w4 ⟨rfl, F⟩
  replace H := H.keep F; clear F
  refine asg (v := .int .u32 _) rfl rfl ?_
  refine nl ?_
  refine then_n ?_
  refine sq ?_
  refine sq ?_
  refine rg ?_
  refine mv (v := .pointer _) rfl rfl ?_
  first | refine nc rfl rfl ?_ | refine nci rfl rfl ?_
  refine fa rfl fo75_9 rfl ?_
  first | refine ld H rfl sc35 rfl rfl ?_ | refine lc rfl (by first | assumption | exact H.fr.cell (by assumption) (by simp)) sc35 rfl ?_ | refine ld H rfl sc35 (by assumption) rfl ?_
  refine mv (v := .int .u32 _) rfl rfl ?_
  refine neq rfl rfl rfl ?_
  refine nl ?_
  refine then_n ?_
  first | refine cd rfl (fun hc3 => ?_) (fun hc3 => ?_) | refine cn rfl (fun hc3 => ?_) (fun hc3 => ?_)   -- test 3
  · refine sq ?_
    refine rg ?_
    refine cl ca37 (c_errNew _ _) rfl ?_
    rintro _ w5 ⟨⟨be2, rfl⟩, F⟩
    replace H := H.keep F; clear F
    refine bu (out := ?o1) ze101 bo101 ?f1 rfl ?_
    case f1 =>
      first | refine FL.one (v := .nilIface) rfl pl101_0 rfl (by decide) ?_ | refine FL.one (v := .iface _ _) rfl pl101_0 rfl (by decide) ?_
      exact FL.nil
    refine bx (v := .agg _) H rfl rfl rfl ?_
    clear H; intro b3 w6 hb3 H _
    refine mi (v := .pointer _) rfl cc87 rfl ?_
    refine asg (v := .pointer _) rfl rfl ?_
    first | refine asg (v := .nilIface) rfl rfl ?_ | refine asg (v := .iface _ _) rfl rfl ?_ | refine asg rfl rfl ?_
    refine nl ?_
    refine then_n ?_
    refine rt ?_
    refine then_r ?_
    refine fin_r ?_
    exact ⟨H.fr, _, _, rfl, .inr ⟨_, _, rfl⟩, by rw [decide_eq_false hc3]; rfl, fun _ => ⟨_, rfl⟩, fun h => absurd h hc3⟩
  · refine sk ?_
    refine then_n ?_
    refine sq ?_
    refine rg ?_
    refine mv (v := .slice _ _ _) rfl rfl ?_
    refine mv (v := .pointer _) rfl rfl ?_
    first | refine nc rfl rfl ?_ | refine nci rfl rfl ?_
    refine fa rfl fo75_7 rfl ?_
    first | refine ld H rfl sc35 rfl rfl ?_ | refine lc rfl (by first | assumption | exact H.fr.cell (by assumption) (by simp)) sc35 rfl ?_ | refine ld H rfl sc35 (by assumption) rfl ?_
    refine cvi rfl rfl Try.underlying3 (by first | exact w_i64 (by omega) | exact w_i64 (rng_i64 _) | rfl) rfl ?_
    refine mv (v := .int .i64 _) rfl rfl ?_
    refine mv (v := .int .i64 _) rfl rfl ?_
    refine cl ca45 (c_readArr _ b1 16384 16384 128 (pcs ds (512 * f) 16384) (RB.allm (b := b1) H hal) (by decide) (by decide) (by decide)) rfl ?_
    rintro _ w7 ⟨D9, cap9, l9, rfl, hl9, hll9, O⟩
    replace O := O.joinN H ents_m
    simp only [List.cons_append, List.nil_append] at O
    have H := O.sh
    refine mv (v := .tuple _) rfl rfl ?_
    refine xt rfl rfl rfl ?_
    refine xt rfl rfl rfl ?_
    refine asg (v := .slice _ _ _) rfl rfl ?_
    first | refine asg (v := .nilIface) rfl rfl ?_ | refine asg (v := .iface _ _) rfl rfl ?_ | refine asg rfl rfl ?_
    refine nl ?_
    refine then_n ?_
    refine sq ?_
    refine sq ?_
    refine rg ?_
    first | refine mv (v := .nilIface) rfl rfl ?_ | refine mv (v := .iface _ _) rfl rfl ?_ | refine mv rfl rfl ?_
    first | refine neqI1 rfl Try.underlying70 rfl ?_ | refine neqI0 rfl Try.underlying70 rfl ?_ | refine neqIG rfl Try.underlying70 (by assumption) rfl ?_
    refine nl ?_
    refine then_n ?_
    first | refine cF rfl rfl ?_ | refine cbF rfl rfl ?_   -- test 4
    refine sk ?_
    refine then_n ?_
    refine sq ?_
    refine rg ?_
    refine mv (v := .pointer _) rfl rfl ?_
    refine mv (v := .slice _ _ _) rfl rfl ?_
    first | refine nc rfl rfl ?_ | refine nci rfl rfl ?_
    refine fa rfl fo75_0 rfl ?_
    refine st (v := .slice _ _ _) H rfl rfl sc73 rfl (by show 0 + 0 < 15; decide) (by omega) ?_
    intro w95 H1 F; replace O := O.put F H1.look; clear H H1 F; have H := O.sh
    refine nl ?_
    refine then_n ?_
    refine sq ?_
    refine rg ?_
    refine mv (v := .pointer _) rfl rfl ?_
    refine asg (v := .pointer _) rfl rfl ?_
    refine asg (v := .nilIface) rfl rfl ?_
    refine nl ?_
    refine then_n ?_
    refine rt ?_
    refine fin_r ?_
    have hcc : crc = crc32 (pcs ds (512 * f) 16384) := Classical.not_not.1 hc3
    exact ⟨H.fr, _, _, rfl, .inl rfl, by rw [decide_eq_true hcc]; rfl, fun h => absurd hcc h, fun _ => ⟨rfl, D9, cap9, l9, hl9, hll9, O.sub (List.Sublist.cons _ (List.Sublist.refl _))⟩⟩

end Go.Proofs.Ythcaejaaalkglaa.X
/- Walks of functions, printed by a program of this claim. -/
namespace Go.Proofs.Ythcaejaaalkglaa.X
set_option linter.unusedVariables false
set_option linter.unusedSimpArgs false
open Go Go.RowKit

namespace P19
theorem bo101 : buildOK Try.prog 101 = true := by kernel_rfl
theorem ca37 : callable Try.prog 37 = true := by kernel_rfl
theorem ca39 : callable Try.prog 39 = true := by kernel_rfl
theorem ca40 : callable Try.prog 40 = true := by kernel_rfl
theorem ca82 : callable Try.prog 82 = true := by kernel_rfl
theorem cc87 : Try.prog.concrete 87 = true := by kernel_rfl
theorem me50_ReadAt : ∀ (v : Value) (w : World), (method (Try.prog.types.size + Made.depth) 50 v "ReadAt").run Try.prog w = .ok (82, v) w := fun v w => by kernel_rfl
theorem mi5 : elemInfo Try.prog 5 = some (.int .u8 0, 1) := by kernel_rfl
theorem pl101_0 : placeOf Try.prog 101 0 = some (0, 1) := by kernel_rfl
theorem ze101 : zeroL Try.prog 101 = some [.nilIface] := by kernel_rfl

end P19
open P19

set_option maxRecDepth 100000 in
set_option maxHeartbeats 1000000 in
theorem c_readPrim (w : World) (bm bd L c : Nat) (ds : List UInt8) (hm : w.cell? ⟨bm, 0, none⟩ = some (.slice (some ⟨bd, 0, none⟩) L c)) (hd : RB w (some ⟨bd, 0, none⟩) L ds) (hL : 512 ≤ L ∧ L ≤ 1000000000) (hLc : L ≤ c) (hL2 : 17408 ≤ L) (hcan : hdrGood ds 512 = true → fld ds 584 8 = 2 ∧ fld ds 592 4 = 128 ∧ fld ds 596 4 = 128) : Calls Try.prog 35 #[.iface 50 (.pointer (some ⟨bm, 0, none⟩)), .int .i64 512, .int .i64 512] w (Ret fun v w' => Fr [] w w' ∧ ∃ A e, v = .tuple #[.pointer A, e] ∧ Ifc e ∧ isIf e = !((hdrGood ds 512 && decide (fld ds 600 4 = crc32 (pcs ds 1024 16384)))) ∧ ((hdrGood ds 512 && decide (fld ds 600 4 = crc32 (pcs ds 1024 16384))) = false → ∃ x, e = .iface 87 (.pointer x)) ∧ ((hdrGood ds 512 && decide (fld ds 600 4 = crc32 (pcs ds 1024 16384))) = true → ∃ p, A = some ⟨p, 0, none⟩ ∧ ∃ D cap l, l.map Prod.snd = usedC (pcs ds 1024 16384) 128 ∧ l.length ≤ 128 ∧ OR 93 1 w [] w' (⟨p, .cells (tbC D l.length cap 512 512 (gT (pcs ds 568 16)) (protB (pcs ds 0 512) (fld ds 544 8 % 4294967296)) false 128 128 2 (fld ds (600) 4) (fld ds (536) 8) (fld ds (544) 8) (fld ds (552) 8) (fld ds (560) 8) true).toArray 75 (0, 0), true⟩ :: ents 96 l) D l.length cap (ptrs l))) := by
  refine enter (fun ρ => .tuple #[ρ 6, ρ 7]) Try.func35 rfl rfl rfl (res2 rfl) ?_
  have H := SH.nil w
  have hbm := cell_lt0 hm
  have hbd := hd.lt (by omega)
  have hdl := hd.1
  have hbl : (pcs ds 0 1024).length = 1024 := pcs_len (by omega)
  refine sq ?_
  refine rg ?_
  refine asg (v := .pointer _) rfl rfl ?_
  refine asg (v := .nilIface) rfl rfl ?_
  refine nl ?_
  refine then_n ?_
  refine sq ?_
  refine rg ?_
  refine mv (v := .int .i64 _) rfl rfl ?_
  refine mul (c := 1024) rfl rfl rfl rfl ?_
  have hsz := H.size
  refine mkB H rfl rfl Try.underlying23 mi5 (by omega) (by omega) (by omega) (by omega) rfl ?_
  clear H; intro b1 w1 hb1 H _
  refine asg (v := .slice _ _ _) rfl rfl ?_
  refine nl ?_
  refine then_n ?_
  refine sq ?_
  refine rg ?_
  first | refine mv (v := .nilIface) rfl rfl ?_ | refine mv (v := .iface _ _) rfl rfl ?_ | refine mv rfl rfl ?_
  refine mv (v := .slice _ _ _) rfl rfl ?_
  refine mc rfl me50_ReadAt ca82 (c_readAt _ bm bd b1 L c 0 0 1024 1024 _ ds (List.replicate 1024 0) (H.fr.cell hm (by simp)) (hd.keep H.fr) (H.look (b := b1)) ⟨fun h => by simp at hbm; omega, fun h => by omega⟩ (by omega) (by omega) (by decide) (by rw [List.length_replicate]; decide) (by omega)) rfl ?_
  rintro _ w2 ⟨rfl, F, hnew⟩
  replace H := H.put (b := b1) F hnew; clear F hnew
  replace H := sh_cells0 H (congrArg Bs (pAt_all (by rw [hbl, List.length_replicate])))
  refine mv (v := .tuple _) rfl rfl ?_
  refine xt rfl rfl rfl ?_
  refine xt rfl rfl rfl ?_
  refine asg (v := .int .i64 _) rfl rfl ?_
  first | refine asg (v := .nilIface) rfl rfl ?_ | refine asg (v := .iface _ _) rfl rfl ?_ | refine asg rfl rfl ?_
  refine nl ?_
  refine then_n ?_
  refine sq ?_
  refine sq ?_
  refine rg ?_
  first | refine mv (v := .nilIface) rfl rfl ?_ | refine mv (v := .iface _ _) rfl rfl ?_ | refine mv rfl rfl ?_
  first | refine neqI1 rfl Try.underlying70 rfl ?_ | refine neqI0 rfl Try.underlying70 rfl ?_ | refine neqIG rfl Try.underlying70 (by assumption) rfl ?_
  refine nl ?_
  refine then_n ?_
  first | refine cF rfl rfl ?_ | refine cbF rfl rfl ?_   -- test 1
  refine sk ?_
  refine then_n ?_
  refine sq ?_
  refine sq ?_
  refine rg ?_
  refine mv (v := .int .i64 _) rfl rfl ?_
  refine mv (v := .slice _ _ _) rfl rfl ?_
  refine lnS rfl Try.underlying23 rfl ?_
  refine neq rfl rfl rfl ?_
  refine nl ?_
  refine then_n ?_
  first | refine cF rfl rfl ?_ | refine cbF rfl rfl ?_   -- test 2
  refine sk ?_
  refine then_n ?_
  refine sq ?_
  refine rg ?_
  refine mv (v := .slice _ _ _) rfl rfl ?_
  refine mv (v := .int .i64 _) rfl rfl ?_
  refine mv (v := .int .i64 _) rfl rfl ?_
  refine cl ca39 (c_tabFrom _ b1 1024 1024 _ (pcs ds 0 1024) (H.look (b := b1)) (by decide) (by decide) (by omega) (by omega)) rfl ?_
  rintro _ w3 ⟨F, hnew, A9, e9, rfl, hie, hif, hok⟩
  obtain ⟨H9, hlt⟩ := H.put2 F hnew
  clear H F hnew; have H := H9; clear H9
  refine mv (v := .tuple _) rfl rfl ?_
  refine xt rfl rfl rfl ?_
  refine xt rfl rfl rfl ?_
  refine asg (v := .pointer _) rfl rfl ?_
  first | refine asg (v := .nilIface) rfl rfl ?_ | refine asg (v := .iface _ _) rfl rfl ?_ | refine asg rfl rfl ?_
  refine nl ?_
  refine then_n ?_
  refine sq ?_
  refine sq ?_
  refine rg ?_
  first | refine mv (v := .nilIface) rfl rfl ?_ | refine mv (v := .iface _ _) rfl rfl ?_ | refine mv rfl rfl ?_
  first | refine neqI1 rfl Try.underlying70 rfl ?_ | refine neqI0 rfl Try.underlying70 rfl ?_ | refine neqIG rfl Try.underlying70 (by assumption) rfl ?_
  refine nl ?_
  refine then_n ?_
  first | refine cd rfl (fun hc3 => ?_) (fun hc3 => ?_) | refine cn rfl (fun hc3 => ?_) (fun hc3 => ?_)   -- test 3
  · have hgd : hdrGood ds 512 = false := by have h9 := hif.symm.trans hc3; rw [hdr0] at h9; simpa using h9
    refine sq ?_
    refine rg ?_
    refine cl ca37 (c_errNew _ _) rfl ?_
    rintro _ w4 ⟨⟨be2, rfl⟩, F⟩
    replace H := H.keep F; clear F
    refine bu (out := ?o1) ze101 bo101 ?f1 rfl ?_
    case f1 =>
      first | refine FL.one (v := .nilIface) rfl pl101_0 rfl (by decide) ?_ | refine FL.one (v := .iface _ _) rfl pl101_0 rfl (by decide) ?_
      exact FL.nil
    refine bx (v := .agg _) H rfl rfl rfl ?_
    clear H; intro b3 w5 hb3 H _
    refine mi (v := .pointer _) rfl cc87 rfl ?_
    refine asg (v := .pointer _) rfl rfl ?_
    first | refine asg (v := .nilIface) rfl rfl ?_ | refine asg (v := .iface _ _) rfl rfl ?_ | refine asg rfl rfl ?_
    refine nl ?_
    refine then_n ?_
    refine rt ?_
    refine then_r ?_
    refine fin_r ?_
    exact ⟨H.fr, _, _, rfl, .inr ⟨_, _, rfl⟩, by rw [hgd]; rfl, fun _ => ⟨_, rfl⟩, fun h => by rw [hgd] at h; cases h⟩
  · have hgd : hdrGood ds 512 = true := by have h9 := hif.symm.trans hc3; rw [hdr0] at h9; simpa using h9
    obtain ⟨p, rfl, hp1, hp2⟩ := hok (by rw [hdr0]; exact hgd)
    obtain ⟨k1, k2, k3⟩ := hcan hgd
    simp only [pcs0 (show 568 + 16 ≤ 1024 by decide), pcs0 (show 0 + 512 ≤ 1024 by decide), fld0 (show 544 + 8 ≤ 1024 by decide), fld0 (show 592 + 4 ≤ 1024 by decide), fld0 (show 596 + 4 ≤ 1024 by decide), fld0 (show 584 + 8 ≤ 1024 by decide), fld0 (show 600 + 4 ≤ 1024 by decide), fld0 (show 536 + 8 ≤ 1024 by decide), fld0 (show 552 + 8 ≤ 1024 by decide), fld0 (show 560 + 8 ≤ 1024 by decide), k1, k2, k3] at hp2
    replace H := H.add hlt hp1 hp2; clear hp2
    refine sk ?_
    refine then_n ?_
    refine sq ?_
    refine rg ?_
    first | refine mv (v := .nilIface) rfl rfl ?_ | refine mv (v := .iface _ _) rfl rfl ?_ | refine mv rfl rfl ?_
    refine mv (v := .pointer _) rfl rfl ?_
    refine mv (v := .int .i64 _) rfl rfl ?_
    refine mv (v := .int .i64 _) rfl rfl ?_
    refine cl ca40 (c_loadE _ p 2 bm bd L c ds (H.fr.cell hm (by simp)) (hd.keep H.fr) hL hLc _ _ _ _ _ _ _ _ _ (H.look (b := p)) ⟨fun h => by simp at hbm; have := hlt.2; omega, fun h => by have := hlt.2; omega⟩ (by omega)) rfl ?_
    rintro _ w6 ⟨F, A10, e10, rfl, hie2, hif2, hce, hok2⟩
    refine xt rfl rfl rfl ?_
    refine xt rfl rfl rfl ?_
    refine asg (v := .pointer _) rfl rfl ?_
    first | refine asg (v := .nilIface) rfl rfl ?_ | refine asg (v := .iface _ _) rfl rfl ?_ | refine asg rfl rfl ?_
    refine nl ?_
    refine then_n ?_
    refine rt ?_
    refine fin_r ?_
    have hge : w.heap.size ≤ p := Nat.le_trans hlt.2 hp1
    refine ⟨H.fr.then F (by simpa using hge), A10, e10, rfl, hie2, ?_, ?_, ?_⟩
    · rw [hgd, Bool.true_and]; exact hif2
    · rw [hgd, Bool.true_and]; exact fun h => hce (of_decide_eq_false h)
    · rw [hgd, Bool.true_and]
      intro h
      obtain ⟨rfl, D, cap, l, h1, h2, O⟩ := hok2 (of_decide_eq_true h)
      exact ⟨p, rfl, D, cap, l, h1, h2, O.under H.fr hge⟩

end Go.Proofs.Ythcaejaaalkglaa.X
/- Walks of functions, printed by a program of this claim. -/
namespace Go.Proofs.Ythcaejaaalkglaa.X
set_option linter.unusedVariables false
set_option linter.unusedSimpArgs false
open Go Go.RowKit

namespace P20
theorem ca37 : callable Try.prog 37 = true := by kernel_rfl
theorem ca40 : callable Try.prog 40 = true := by kernel_rfl
theorem ca41 : callable Try.prog 41 = true := by kernel_rfl
theorem ca42 : callable Try.prog 42 = true := by kernel_rfl
theorem ca82 : callable Try.prog 82 = true := by kernel_rfl
theorem ca83 : callable Try.prog 83 = true := by kernel_rfl
theorem fo68_0 : fieldOff Try.prog 68 0 = some 0 := by kernel_rfl
theorem fo68_1 : fieldOff Try.prog 68 1 = some 1 := by kernel_rfl
theorem fo75_1 : fieldOff Try.prog 75 1 = some 1 := by kernel_rfl
theorem fo75_10 : fieldOff Try.prog 75 10 = some 10 := by kernel_rfl
theorem fo75_11 : fieldOff Try.prog 75 11 = some 11 := by kernel_rfl
theorem fo75_14 : fieldOff Try.prog 75 14 = some 14 := by kernel_rfl
theorem fo75_2 : fieldOff Try.prog 75 2 = some 2 := by kernel_rfl
theorem fo75_4 : fieldOff Try.prog 75 4 = some 4 := by kernel_rfl
theorem me50_ReadAt : ∀ (v : Value) (w : World), (method (Try.prog.types.size + Made.depth) 50 v "ReadAt").run Try.prog w = .ok (82, v) w := fun v w => by kernel_rfl
theorem me50_Seek : ∀ (v : Value) (w : World), (method (Try.prog.types.size + Made.depth) 50 v "Seek").run Try.prog w = .ok (83, v) w := fun v w => by kernel_rfl
theorem mi5 : elemInfo Try.prog 5 = some (.int .u8 0, 1) := by kernel_rfl
theorem sc2 : scalarB Try.prog 2 = true := by kernel_rfl
theorem sc23 : scalarB Try.prog 23 = true := by kernel_rfl
theorem sc3 : scalarB Try.prog 3 = true := by kernel_rfl
theorem sc30 : scalarB Try.prog 30 = true := by kernel_rfl
theorem sc4 : scalarB Try.prog 4 = true := by kernel_rfl

end P20
open P20

set_option maxRecDepth 100000 in
set_option maxHeartbeats 1000000 in
theorem c_seek (w : World) (bm bd L c : Nat) (x1 x2 x3 : Value) (hb : w.heap[bm]? = some (.cells [.slice (some ⟨bd, 0, none⟩) L c, x1, x2, x3].toArray 68 (0, 0))) (hL : L ≤ 1000000000) : Calls Try.prog 83 #[.pointer (some ⟨bm, 0, none⟩), .int .i64 0, .int .i64 2] w (Ret fun v w' => v = .tuple #[.int .i64 (L : Int), .nilIface] ∧ Fr [bm] w w' ∧ w'.heap[bm]? = some (.cells [.slice (some ⟨bd, 0, none⟩) L c, .int .i64 (L : Int), x2, x3].toArray 68 (0, 0))) := by
  refine enter (fun ρ => .tuple #[ρ 6, ρ 7]) Try.func83 rfl rfl rfl (res2 rfl) ?_
  have H := SH.rw1 hb
  refine sq ?_
  refine rg ?_
  refine asg (v := .int .i64 _) rfl rfl ?_
  refine asg (v := .nilIface) rfl rfl ?_
  refine nl ?_
  refine then_n ?_
  refine sq ?_
  refine sq ?_
  refine rg ?_
  refine mv (v := .int .i64 _) rfl rfl ?_
  refine nl ?_
  refine then_n ?_
  refine bk ?_
  refine sq ?_
  refine rg ?_
  refine eql rfl rfl rfl ?_
  refine asg (v := .bool _) rfl rfl ?_
  refine nl ?_
  refine then_n ?_
  first | refine cF rfl (by decide) ?_ | refine cbF rfl (by decide) ?_   -- test 1
  refine sq ?_
  refine rg ?_
  refine eql rfl rfl rfl ?_
  refine asg (v := .bool _) rfl rfl ?_
  refine nl ?_
  refine then_n ?_
  first | refine cT rfl (by decide) ?_ | refine cbT rfl (by decide) ?_   -- test 2
  refine rg ?_
  refine mv (v := .int .i64 _) rfl rfl ?_
  refine mv (v := .pointer _) rfl rfl ?_
  first | refine nc rfl rfl ?_ | refine nci rfl rfl ?_
  refine fa rfl fo68_0 rfl ?_
  first | refine ld H rfl sc23 rfl rfl ?_ | refine lc rfl (by first | assumption | exact H.fr.cell (by assumption) (by simp)) sc23 rfl ?_ | refine ld H rfl sc23 (by assumption) rfl ?_
  refine lnS rfl Try.underlying23 rfl ?_
  refine add rfl rfl (by first | exact w_i64 (by omega) | exact w_i64 (rng_i64 _) | rfl) rfl ?_
  refine asg (v := .int .i64 _) rfl rfl ?_
  refine nl ?_
  refine in_n ?_
  refine then_n ?_
  refine sq ?_
  refine sq ?_
  refine rg ?_
  refine mv (v := .int .i64 _) rfl rfl ?_
  refine lss rfl rfl rfl ?_
  refine nl ?_
  refine then_n ?_
  first | refine cF rfl (by omega) ?_ | refine cbF rfl (by omega) ?_   -- test 3
  refine sk ?_
  refine then_n ?_
  refine sq ?_
  refine rg ?_
  refine mv (v := .pointer _) rfl rfl ?_
  refine mv (v := .int .i64 _) rfl rfl ?_
  first | refine nc rfl rfl ?_ | refine nci rfl rfl ?_
  refine fa rfl fo68_1 rfl ?_
  refine st (v := .int .i64 _) H rfl rfl sc2 rfl (by first | decide | (simp only [List.length_set, List.length_cons, List.length_nil, List.length_replicate, List.length_append, Bs_length]; omega) | omega) (by omega) ?_
  clear H; intro w1 H _
  refine nl ?_
  refine then_n ?_
  refine sq ?_
  refine rg ?_
  refine mv (v := .int .i64 _) rfl rfl ?_
  refine asg (v := .int .i64 _) rfl rfl ?_
  refine asg (v := .nilIface) rfl rfl ?_
  refine nl ?_
  refine then_n ?_
  refine rt ?_
  refine fin_r ?_
  refine ⟨?_, H.fr, ?_⟩
  · exact congrArg (fun z => Value.tuple #[.int .i64 z, .nilIface]) (by omega)
  · exact H.look.trans (congrArg (fun z => some (Obj.cells [.slice (some ⟨bd, 0, none⟩) L c, .int .i64 z, x2, x3].toArray 68 (0, 0))) (by omega))

set_option maxRecDepth 100000 in
set_option maxHeartbeats 1000000 in
theorem c_seekSize (w : World) (bm bd L c : Nat) (x1 x2 x3 : Value) (hb : w.heap[bm]? = some (.cells [.slice (some ⟨bd, 0, none⟩) L c, x1, x2, x3].toArray 68 (0, 0))) (hL : L ≤ 1000000000) : Calls Try.prog 36 #[.iface 50 (.pointer (some ⟨bm, 0, none⟩))] w (Ret fun v w' => v = .tuple #[.int .i64 (L : Int), .nilIface] ∧ Fr [bm] w w' ∧ w'.heap[bm]? = some (.cells [.slice (some ⟨bd, 0, none⟩) L c, .int .i64 (L : Int), x2, x3].toArray 68 (0, 0))) := by
  refine enter (fun ρ => .tuple #[ρ 2, ρ 3]) Try.func36 rfl rfl rfl (res2 rfl) ?_
  have H := SH.rw1 hb
  refine sq ?_
  refine rg ?_
  refine asg (v := .int .i64 _) rfl rfl ?_
  refine asg (v := .nilIface) rfl rfl ?_
  refine nl ?_
  refine then_n ?_
  refine sq ?_
  refine rg ?_
  first | refine mv (v := .nilIface) rfl rfl ?_ | refine mv (v := .iface _ _) rfl rfl ?_ | refine mv rfl rfl ?_
  refine mc rfl me50_Seek ca83 (c_seek _ bm bd L c x1 x2 x3 (H.look (b := bm)) hL) rfl ?_
  rintro _ w1 ⟨rfl, F, hnew⟩
  replace H := H.put (b := bm) F hnew; clear F hnew
  refine xt rfl rfl rfl ?_
  refine xt rfl rfl rfl ?_
  refine asg (v := .int .i64 _) rfl rfl ?_
  first | refine asg (v := .nilIface) rfl rfl ?_ | refine asg (v := .iface _ _) rfl rfl ?_ | refine asg rfl rfl ?_
  refine nl ?_
  refine then_n ?_
  refine rt ?_
  refine fin_r ?_
  exact ⟨rfl, H.fr, H.look⟩

set_option maxRecDepth 100000 in
set_option maxHeartbeats 1000000 in
theorem c_readBack (w : World) (b f : Nat) (bm bd L c : Nat) (ds : List UInt8) (hm : w.cell? ⟨bm, 0, none⟩ = some (.slice (some ⟨bd, 0, none⟩) L c)) (hd : RB w (some ⟨bd, 0, none⟩) L ds) (hL : 512 ≤ L ∧ L ≤ 1000000000) (hLc : L ≤ c) (hb : 512 * b + 512 ≤ L) (hf : 512 * f + 16384 ≤ L) (hcan : hdrGood ds (512 * b) = true → fld ds (512 * b + 72) 8 = (f : Int) ∧ fld ds (512 * b + 80) 4 = 128 ∧ fld ds (512 * b + 84) 4 = 128) : Calls Try.prog 38 #[.iface 50 (.pointer (some ⟨bm, 0, none⟩)), .int .i64 512, .int .i64 512, .int .u64 (b : Int)] w (Ret fun v w' => Fr [] w w' ∧ ∃ A e, v = .tuple #[.pointer A, e] ∧ Ifc e ∧ isIf e = !((hdrGood ds (512 * b) && decide (fld ds (512 * b + 24) 8 = (b : Int)) && decide (fld ds (512 * b + 88) 4 = crc32 (pcs ds (512 * f) 16384)))) ∧ ((hdrGood ds (512 * b) && decide (fld ds (512 * b + 24) 8 = (b : Int)) && decide (fld ds (512 * b + 88) 4 = crc32 (pcs ds (512 * f) 16384))) = true → ∃ p, A = some ⟨p, 0, none⟩ ∧ ∃ D cap l, l.map Prod.snd = usedC (pcs ds (512 * f) 16384) 128 ∧ l.length ≤ 128 ∧ OR 93 1 w [] w' (⟨p, .cells (tbC D l.length cap 512 512 (gT (pcs ds (512 * b + 56) 16)) (protB (pcs ds 0 512) ((fld ds (512 * b + 24) 8) % 4294967296)) false 128 128 f (fld ds (512 * b + 88) 4) (fld ds (512 * b + 32) 8) (fld ds (512 * b + 24) 8) (fld ds (512 * b + 40) 8) (fld ds (512 * b + 48) 8) true).toArray 75 (0, 0), true⟩ :: ents 96 l) D l.length cap (ptrs l))) := by
  refine enter (fun ρ => .tuple #[ρ 8, ρ 9]) Try.func38 rfl rfl rfl (res2 rfl) ?_
  have H := SH.nil w
  have hbm := cell_lt0 hm
  have hbd := hd.lt (by omega)
  have hdl := hd.1
  have hbl : (pcs ds (512 * b) 512).length = 512 := pcs_len (by omega)
  have hbl0 : (pcs ds 0 512).length = 512 := pcs_len (by omega)
  refine sq ?_
  refine rg ?_
  refine asg (v := .pointer _) rfl rfl ?_
  refine asg (v := .nilIface) rfl rfl ?_
  refine nl ?_
  refine then_n ?_
  refine sq ?_
  refine rg ?_
  refine mv (v := .int .i64 _) rfl rfl ?_
  refine mkB H rfl rfl Try.underlying23 mi5 (by omega) (by omega) (by omega) (by omega) rfl ?_
  clear H; intro b1 w1 hb1 H _
  have hsz := H.size
  refine asg (v := .slice _ _ _) rfl rfl ?_
  refine nl ?_
  refine then_n ?_
  refine sq ?_
  refine rg ?_
  refine mv (v := .int .u64 _) rfl rfl ?_
  refine cvi rfl rfl Try.underlying2 (by first | exact w_i64 (by omega) | exact w_i64 (rng_i64 _) | rfl) rfl ?_
  refine mv (v := .int .i64 _) rfl rfl ?_
  refine mul (c := ((512 * b : Nat) : Int)) rfl rfl (by rw [w_i64 (by omega)]; omega) rfl ?_
  refine asg (v := .int .i64 _) rfl rfl ?_
  refine nl ?_
  refine then_n ?_
  refine sq ?_
  refine rg ?_
  first | refine mv (v := .nilIface) rfl rfl ?_ | refine mv (v := .iface _ _) rfl rfl ?_ | refine mv rfl rfl ?_
  refine mv (v := .slice _ _ _) rfl rfl ?_
  refine mv (v := .int .i64 _) rfl rfl ?_
  refine mc rfl me50_ReadAt ca82 (c_readAt _ bm bd b1 L c (512 * b) 0 512 512 _ ds (List.replicate 512 0) (H.fr.cell hm (by simp)) (hd.keep H.fr) (H.look (b := b1)) ⟨fun h => by simp at hbm; omega, fun h => by omega⟩ (by omega) (by omega) (by decide) (by rw [List.length_replicate]; decide) (by omega)) rfl ?_
  rintro _ w2 ⟨rfl, F, hnew⟩
  replace H := H.put (b := b1) F hnew; clear F hnew
  replace H := sh_cells0 H (congrArg Bs (pAt_all (by rw [hbl, List.length_replicate])))
  refine mv (v := .tuple _) rfl rfl ?_
  refine xt rfl rfl rfl ?_
  refine xt rfl rfl rfl ?_
  refine asg (v := .int .i64 _) rfl rfl ?_
  first | refine asg (v := .nilIface) rfl rfl ?_ | refine asg (v := .iface _ _) rfl rfl ?_ | refine asg rfl rfl ?_
  refine nl ?_
  refine then_n ?_
  refine sq ?_
  refine sq ?_
  refine rg ?_
  first | refine mv (v := .nilIface) rfl rfl ?_ | refine mv (v := .iface _ _) rfl rfl ?_ | refine mv rfl rfl ?_
  first | refine neqI1 rfl Try.underlying70 rfl ?_ | refine neqI0 rfl Try.underlying70 rfl ?_ | refine neqIG rfl Try.underlying70 (by assumption) rfl ?_
  refine nl ?_
  refine then_n ?_
  first | refine cF rfl rfl ?_ | refine cbF rfl rfl ?_   -- test 1
  refine sk ?_
  refine then_n ?_
  refine sq ?_
  refine sq ?_
  refine rg ?_
  refine mv (v := .int .i64 _) rfl rfl ?_
  refine mv (v := .slice _ _ _) rfl rfl ?_
  refine lnS rfl Try.underlying23 rfl ?_
  refine neq rfl rfl rfl ?_
  refine nl ?_
  refine then_n ?_
  first | refine cF rfl rfl ?_ | refine cbF rfl rfl ?_   -- test 2
  refine sk ?_
  refine then_n ?_
  refine sq ?_
  refine rg ?_
  refine mv (v := .slice _ _ _) rfl rfl ?_
  refine cl ca41 (c_readHdr _ b1 0 512 512 _ (pcs ds (512 * b) 512) (H.look (b := b1)) (by decide) (by decide) (by omega) (by omega)) rfl ?_
  rintro _ w3 ⟨F, hnew, hres⟩
  obtain ⟨A9, e9, rfl, hie, hif, hok⟩ := two_res hres
  obtain ⟨H9, hlt⟩ := H.put2 F hnew
  clear H hres F hnew; have H := H9; clear H9
  refine mv (v := .tuple _) rfl rfl ?_
  refine xt rfl rfl rfl ?_
  refine xt rfl rfl rfl ?_
  refine asg (v := .pointer _) rfl rfl ?_
  first | refine asg (v := .nilIface) rfl rfl ?_ | refine asg (v := .iface _ _) rfl rfl ?_ | refine asg rfl rfl ?_
  refine nl ?_
  refine then_n ?_
  refine sq ?_
  refine sq ?_
  refine rg ?_
  first | refine mv (v := .nilIface) rfl rfl ?_ | refine mv (v := .iface _ _) rfl rfl ?_ | refine mv rfl rfl ?_
  first | refine neqI1 rfl Try.underlying70 rfl ?_ | refine neqI0 rfl Try.underlying70 rfl ?_ | refine neqIG rfl Try.underlying70 (by assumption) rfl ?_
  refine nl ?_
  refine then_n ?_
  first | refine cd rfl (fun hc3 => ?_) (fun hc3 => ?_) | refine cn rfl (fun hc3 => ?_) (fun hc3 => ?_)   -- test 3
  · have hgd : hdrGood ds (512 * b) = false := by have h9 := hif.symm.trans hc3; rw [hdrA] at h9; simpa using h9
    refine sq ?_
    refine rg ?_
    refine cl ca37 (c_errNew _ _) rfl ?_
    rintro _ w4 ⟨⟨be2, rfl⟩, F⟩
    replace H := H.keep F; clear F
    refine asg (v := .pointer _) rfl rfl ?_
    first | refine asg (v := .nilIface) rfl rfl ?_ | refine asg (v := .iface _ _) rfl rfl ?_ | refine asg rfl rfl ?_
    refine nl ?_
    refine then_n ?_
    refine rt ?_
    refine then_r ?_
    refine fin_r ?_
    exact ⟨H.fr, _, _, rfl, .inr ⟨_, _, rfl⟩, by rw [hgd]; rfl, fun h => by rw [hgd] at h; cases h⟩
  · have hgd : hdrGood ds (512 * b) = true := by have h9 := hif.symm.trans hc3; rw [hdrA] at h9; simpa using h9
    obtain ⟨p, rfl, hp1, hp2⟩ := hok (by rw [hdrA]; exact hgd)
    obtain ⟨k1, k2, k3⟩ := hcan hgd
    simp only [Nat.zero_add, pcsA (show 56 + 16 ≤ 512 by decide), fldA (show 24 + 8 ≤ 512 by decide), fldA (show 32 + 8 ≤ 512 by decide), fldA (show 40 + 8 ≤ 512 by decide), fldA (show 48 + 8 ≤ 512 by decide), fldA (show 72 + 8 ≤ 512 by decide), fldA (show 80 + 4 ≤ 512 by decide), fldA (show 84 + 4 ≤ 512 by decide), fldA (show 88 + 4 ≤ 512 by decide), k1, k2, k3] at hp2
    replace H := H.add hlt hp1 hp2; clear hp2
    refine sk ?_
    refine then_n ?_
    refine sq ?_
    refine sq ?_
    refine rg ?_
    refine mv (v := .pointer _) rfl rfl ?_
    first | refine nc rfl rfl ?_ | refine nci rfl rfl ?_
    refine fa rfl fo75_10 rfl ?_
    first | refine ld H rfl sc30 rfl rfl ?_ | refine lc rfl (by first | assumption | exact H.fr.cell (by assumption) (by simp)) sc30 rfl ?_ | refine ld H rfl sc30 (by assumption) rfl ?_
    refine mv (v := .int .u64 _) rfl rfl ?_
    refine neq rfl rfl rfl ?_
    refine nl ?_
    refine then_n ?_
    first | refine cd rfl (fun hc4 => ?_) (fun hc4 => ?_) | refine cn rfl (fun hc4 => ?_) (fun hc4 => ?_)   -- test 4
    · refine sq ?_
      refine rg ?_
      refine cl ca37 (c_errNew _ _) rfl ?_
      rintro _ w5 ⟨⟨be3, rfl⟩, F⟩
      replace H := H.keep F; clear F
      refine asg (v := .pointer _) rfl rfl ?_
      first | refine asg (v := .nilIface) rfl rfl ?_ | refine asg (v := .iface _ _) rfl rfl ?_ | refine asg rfl rfl ?_
      refine nl ?_
      refine then_n ?_
      refine rt ?_
      refine then_r ?_
      refine fin_r ?_
      have hq : (hdrGood ds (512 * b) && decide (fld ds (512 * b + 24) 8 = (b : Int)) && decide (fld ds (512 * b + 88) 4 = crc32 (pcs ds (512 * f) 16384))) = false := by rw [hgd, decide_eq_false hc4]; rfl
      exact ⟨H.fr, _, _, rfl, .inr ⟨_, _, rfl⟩, by rw [hq]; rfl, fun h => by rw [hq] at h; cases h⟩
    · refine sk ?_
      refine then_n ?_
      refine sq ?_
      refine dr (by kernel_rfl) ?_   -- region 13
      have H := H.drew
      refine hold (fun _ => True) [] ?_
      refine tk (i := 0) rfl (by kernel_rfl) rfl trivial (fun _ _ => r_mv (v := .pointer _) rfl) ?_
      refine tk (i := 1) rfl (by kernel_rfl) rfl trivial (fun _ _ => r_mv (v := .pointer _) rfl) ?_
      refine tk (i := 2) rfl (by kernel_rfl) rfl trivial (fun _ _ => r_mv (v := .pointer _) rfl) ?_
      first | refine tk (i := 3) rfl (by kernel_rfl) rfl trivial (fun _ _ => r_nc rfl) ?_ | refine tk (i := 3) rfl (by kernel_rfl) rfl trivial (fun _ _ => r_nci rfl) ?_
      refine tk (i := 4) rfl (by kernel_rfl) rfl trivial (fun _ _ => r_fa rfl fo75_11) ?_
      refine tk (i := 6) rfl (by kernel_rfl) rfl trivial (fun _ _ => r_mv (v := .pointer _) rfl) ?_
      first | refine tk (i := 7) rfl (by kernel_rfl) rfl trivial (fun _ _ => r_nc rfl) ?_ | refine tk (i := 7) rfl (by kernel_rfl) rfl trivial (fun _ _ => r_nci rfl) ?_
      refine tk (i := 8) rfl (by kernel_rfl) rfl trivial (fun _ _ => r_fa rfl fo75_10) ?_
      refine unfree ?_
      refine holdH H [12, 15] ?_
      first | refine tk (i := 5) rfl (by kernel_rfl) rfl H (fun w' H => r_ld H rfl sc30 rfl) ?_ | refine tk (i := 5) rfl (by kernel_rfl) rfl H (fun w' H => r_lc rfl (by first | assumption | exact H.fr.cell (by assumption) (by simp)) sc30) ?_ | refine tk (i := 5) rfl (by kernel_rfl) rfl H (fun w' H => r_ld H rfl sc30 (by assumption)) ?_
      first | refine tk (i := 9) rfl (by kernel_rfl) rfl H (fun w' H => r_ld H rfl sc30 rfl) ?_ | refine tk (i := 9) rfl (by kernel_rfl) rfl H (fun w' H => r_lc rfl (by first | assumption | exact H.fr.cell (by assumption) (by simp)) sc30) ?_ | refine tk (i := 9) rfl (by kernel_rfl) rfl H (fun w' H => r_ld H rfl sc30 (by assumption)) ?_
      refine fk (i := 10) (by kernel_rfl) rfl rfl rfl ?_
      first | refine nc rfl rfl ?_ | refine nci rfl rfl ?_
      refine nl ?_
      refine then_n ?_
      refine ⟨H, ?_⟩
      refine tk (i := 11) rfl (by kernel_rfl) rfl H (fun w' H => r_fa rfl fo75_10) ?_
      refine fb (i := 12) (by kernel_rfl) rfl rfl rfl ?_
      refine st (v := .int .u64 _) H rfl rfl sc30 rfl (by first | decide | (simp only [List.length_set, List.length_cons, List.length_nil, List.length_replicate, List.length_append, Bs_length]; omega) | omega) (by omega) ?_
      clear H; intro w6 H _
      refine nl ?_
      refine then_n ?_
      refine fo (i := 13) (by kernel_rfl) rfl rfl ?_
      first | refine nc rfl rfl ?_ | refine nci rfl rfl ?_
      refine nl ?_
      refine then_n ?_
      refine holdH H [15] ?_
      refine tk (i := 14) rfl (by kernel_rfl) rfl H (fun w' H => r_fa rfl fo75_11) ?_
      refine fb (i := 15) (by kernel_rfl) rfl rfl rfl ?_
      refine st (v := .int .u64 _) H rfl rfl sc30 rfl (by first | decide | (simp only [List.length_set, List.length_cons, List.length_nil, List.length_replicate, List.length_append, Bs_length]; omega) | omega) (by omega) ?_
      clear H; intro w7 H _
      refine nl ?_
      refine then_n ?_
      refine dn (by kernel_rfl) ?_
      refine then_n ?_
      refine sq ?_
      refine rg ?_
      refine mv (v := .pointer _) rfl rfl ?_
      refine mv (v := .int .i64 _) rfl rfl ?_
      first | refine nc rfl rfl ?_ | refine nci rfl rfl ?_
      refine fa rfl fo75_1 rfl ?_
      refine st (v := .int .i64 _) H rfl rfl sc3 rfl (by first | decide | (simp only [List.length_set, List.length_cons, List.length_nil, List.length_replicate, List.length_append, Bs_length]; omega) | omega) (by omega) ?_
      clear H; intro w8 H _
      refine nl ?_
      refine then_n ?_
      refine sq ?_
      refine rg ?_
      refine mv (v := .pointer _) rfl rfl ?_
      refine mv (v := .int .i64 _) rfl rfl ?_
      first | refine nc rfl rfl ?_ | refine nci rfl rfl ?_
      refine fa rfl fo75_2 rfl ?_
      refine st (v := .int .i64 _) H rfl rfl sc3 rfl (by first | decide | (simp only [List.length_set, List.length_cons, List.length_nil, List.length_replicate, List.length_append, Bs_length]; omega) | omega) (by omega) ?_
      clear H; intro w9 H _
      refine nl ?_
      refine then_n ?_
      refine sq ?_
      refine rg ?_
      refine mv (v := .pointer _) rfl rfl ?_
      first | refine nc rfl rfl ?_ | refine nci rfl rfl ?_
      refine fa rfl fo75_14 rfl ?_
      refine st (v := .bool _) H rfl rfl sc4 rfl (by first | decide | (simp only [List.length_set, List.length_cons, List.length_nil, List.length_replicate, List.length_append, Bs_length]; omega) | omega) (by omega) ?_
      clear H; intro w10 H _
      refine nl ?_
      refine then_n ?_
      refine sq ?_
      refine rg ?_
      refine mv (v := .int .i64 _) rfl rfl ?_
      have hsz2 := H.size
      refine mkB H rfl rfl Try.underlying23 mi5 (by omega) (by omega) (by omega) (by omega) rfl ?_
      clear H; intro b4 w11 hb4 H _
      refine asg (v := .slice _ _ _) rfl rfl ?_
      refine nl ?_
      refine then_n ?_
      refine sq ?_
      refine rg ?_
      first | refine mv (v := .nilIface) rfl rfl ?_ | refine mv (v := .iface _ _) rfl rfl ?_ | refine mv rfl rfl ?_
      refine mv (v := .slice _ _ _) rfl rfl ?_
      refine mc rfl me50_ReadAt ca82 (c_readAt _ bm bd b4 L c 0 0 512 512 _ ds (List.replicate 512 0) (H.fr.cell hm (by simp)) (hd.keep H.fr) (H.look (b := b4)) ⟨fun h => by simp at hbm; omega, fun h => by omega⟩ (by omega) (by omega) (by decide) (by rw [List.length_replicate]; decide) (by omega)) rfl ?_
      rintro _ w12 ⟨rfl, F, hnew⟩
      replace H := H.put (b := b4) F hnew; clear F hnew
      replace H := sh_cells0 H (congrArg Bs (pAt_all (by rw [hbl0, List.length_replicate])))
      refine mv (v := .tuple _) rfl rfl ?_
      refine xt rfl rfl rfl ?_
      refine xt rfl rfl rfl ?_
      refine asg (v := .int .i64 _) rfl rfl ?_
      first | refine asg (v := .nilIface) rfl rfl ?_ | refine asg (v := .iface _ _) rfl rfl ?_ | refine asg rfl rfl ?_
      refine nl ?_
      refine then_n ?_
      refine sq ?_
      refine sq ?_
      refine rg ?_
      first | refine mv (v := .nilIface) rfl rfl ?_ | refine mv (v := .iface _ _) rfl rfl ?_ | refine mv rfl rfl ?_
      first | refine eqlI1 rfl Try.underlying70 rfl ?_ | refine eqlI0 rfl Try.underlying70 rfl ?_ | refine eqlIG rfl Try.underlying70 (by assumption) rfl ?_
      refine mv (v := .bool _) rfl rfl ?_
      first | refine spL (t := 87) (b := true) rfl ?_ | refine spT (t := 87) rfl rfl ?_   -- guard 1
      refine gy rfl ?_
      refine mv (v := .int .i64 _) rfl rfl ?_
      refine gy rfl ?_
      refine mv (v := .slice _ _ _) rfl rfl ?_
      refine gy rfl ?_
      refine lnS rfl Try.underlying23 rfl ?_
      refine gy rfl ?_
      refine eql rfl rfl rfl ?_
      refine pkT (v := .bool _) rfl rfl rfl ?_
      refine nl ?_
      refine then_n ?_
      first | refine cT rfl rfl ?_ | refine cbT rfl rfl ?_   -- test 5
      refine rg ?_
      refine mv (v := .pointer _) rfl rfl ?_
      refine mv (v := .slice _ _ _) rfl rfl ?_
      refine mv (v := .pointer _) rfl rfl ?_
      first | refine nc rfl rfl ?_ | refine nci rfl rfl ?_
      refine fa rfl fo75_11 rfl ?_
      first | refine ld H rfl sc30 rfl rfl ?_ | refine lc rfl (by first | assumption | exact H.fr.cell (by assumption) (by simp)) sc30 rfl ?_ | refine ld H rfl sc30 (by assumption) rfl ?_
      refine cvi (c := (fld ds (512 * b + 24) 8) % 4294967296) rfl rfl Try.underlying35 (m_u32 _) rfl ?_
      refine cl ca42 (c_readProt _ b4 0 512 (pcs ds 0 512) _ (RB.allm (b := b4) H hbl0) (by decide)) rfl ?_
      rintro _ w13 ⟨rfl, F⟩
      replace H := H.keep F; clear F
      first | refine nc rfl rfl ?_ | refine nci rfl rfl ?_
      refine fa rfl fo75_4 rfl ?_
      refine st (v := .bool _) H rfl rfl sc4 rfl (by first | decide | (simp only [List.length_set, List.length_cons, List.length_nil, List.length_replicate, List.length_append, Bs_length]; omega) | omega) (by omega) ?_
      clear H; intro w14 H _
      refine nl ?_
      refine then_n ?_
      refine sq ?_
      refine rg ?_
      first | refine mv (v := .nilIface) rfl rfl ?_ | refine mv (v := .iface _ _) rfl rfl ?_ | refine mv rfl rfl ?_
      refine mv (v := .pointer _) rfl rfl ?_
      refine mv (v := .int .i64 _) rfl rfl ?_
      refine mv (v := .int .i64 _) rfl rfl ?_
      refine cl ca40 (c_loadE _ p f bm bd L c ds (H.fr.cell hm (by simp)) (hd.keep H.fr) hL hLc _ _ _ _ _ _ _ _ _ (H.look (b := p)) ⟨fun h => by simp at hbm; have := hlt.2; omega, fun h => by have := hlt.2; omega⟩ (by omega)) rfl ?_
      rintro _ w15 ⟨F, A10, e10, rfl, hie2, hif2, hce, hok2⟩
      refine xt rfl rfl rfl ?_
      refine xt rfl rfl rfl ?_
      refine asg (v := .pointer _) rfl rfl ?_
      first | refine asg (v := .nilIface) rfl rfl ?_ | refine asg (v := .iface _ _) rfl rfl ?_ | refine asg rfl rfl ?_
      refine nl ?_
      refine then_n ?_
      refine rt ?_
      refine fin_r ?_
      have hge : w.heap.size ≤ p := Nat.le_trans hlt.2 hp1
      have hmy : fld ds (512 * b + 24) 8 = (b : Int) := Classical.not_not.1 hc4
      have hq : (hdrGood ds (512 * b) && decide (fld ds (512 * b + 24) 8 = (b : Int)) && decide (fld ds (512 * b + 88) 4 = crc32 (pcs ds (512 * f) 16384))) = decide (fld ds (512 * b + 88) 4 = crc32 (pcs ds (512 * f) 16384)) := by rw [hgd, decide_eq_true hmy]; rfl
      rw [hq]
      refine ⟨H.fr.then F (by simpa using hge), A10, e10, rfl, hie2, hif2, ?_⟩
      intro h
      obtain ⟨rfl, D, cap, l, h1, h2, O⟩ := hok2 (of_decide_eq_true h)
      exact ⟨p, rfl, D, cap, l, h1, h2, O.under H.fr hge⟩

end Go.Proofs.Ythcaejaaalkglaa.X
/- Walks of functions, printed by a program of this claim. -/
namespace Go.Proofs.Ythcaejaaalkglaa.X
set_option linter.unusedVariables false
set_option linter.unusedSimpArgs false
open Go Go.RowKit

namespace P21
theorem ca35 : callable Try.prog 35 = true := by kernel_rfl
theorem ca36 : callable Try.prog 36 = true := by kernel_rfl
theorem ca37 : callable Try.prog 37 = true := by kernel_rfl
theorem ca38 : callable Try.prog 38 = true := by kernel_rfl
theorem fo75_5 : fieldOff Try.prog 75 5 = some 5 := by kernel_rfl
theorem sc4 : scalarB Try.prog 4 = true := by kernel_rfl

end P21
open P21

set_option maxRecDepth 100000 in
set_option maxHeartbeats 1000000 in
theorem c_gptRead (w : World) (bm bd L c : Nat) (x1 x2 x3 : Value) (ds : List UInt8) (hm : w.heap[bm]? = some (.cells [.slice (some ⟨bd, 0, none⟩) L c, x1, x2, x3].toArray 68 (0, 0))) (hd : RB w (some ⟨bd, 0, none⟩) L ds) (hne : bm ≠ bd) (hL : 34816 ≤ L ∧ L ≤ 1000000000) (hLc : L ≤ c) (b f : Nat) (hLb : L = 512 * (b + 1)) (hf : 512 * f + 16384 ≤ L) (hcan1 : hdrGood ds 512 = true → fld ds 584 8 = 2 ∧ fld ds 592 4 = 128 ∧ fld ds 596 4 = 128) (hcan2 : hdrGood ds (512 * b) = true → fld ds (512 * b + 72) 8 = (f : Int) ∧ fld ds (512 * b + 80) 4 = 128 ∧ fld ds (512 * b + 84) 4 = 128) : Calls Try.prog 27 #[.iface 50 (.pointer (some ⟨bm, 0, none⟩)), .int .i64 512, .int .i64 512] w (Ret fun v w' => Fr [bm] w w' ∧ (∃ x, w'.heap[bm]? = some (.cells [.slice (some ⟨bd, 0, none⟩) L c, x, x2, x3].toArray 68 (0, 0))) ∧ ∃ A e, v = .tuple #[.pointer A, e] ∧ Ifc e ∧ isIf e = !((hdrGood ds 512 && decide (fld ds 600 4 = crc32 (pcs ds 1024 16384))) || (hdrGood ds (512 * b) && decide (fld ds (512 * b + 24) 8 = (b : Int)) && decide (fld ds (512 * b + 88) 4 = crc32 (pcs ds (512 * f) 16384)))) ∧ ((hdrGood ds 512 && decide (fld ds 600 4 = crc32 (pcs ds 1024 16384))) = true → ∃ p, A = some ⟨p, 0, none⟩ ∧ ∃ D cap l, l.map Prod.snd = usedC (pcs ds 1024 16384) 128 ∧ l.length ≤ 128 ∧ OR 93 1 w [bm] w' (⟨p, .cells (tbC D l.length cap 512 512 (gT (pcs ds 568 16)) (protB (pcs ds 0 512) (fld ds 544 8 % 4294967296)) false 128 128 2 (fld ds (600) 4) (fld ds (536) 8) (fld ds (544) 8) (fld ds (552) 8) (fld ds (560) 8) true).toArray 75 (0, 0), true⟩ :: ents 96 l) D l.length cap (ptrs l)) ∧ ((hdrGood ds 512 && decide (fld ds 600 4 = crc32 (pcs ds 1024 16384))) = false → (hdrGood ds (512 * b) && decide (fld ds (512 * b + 24) 8 = (b : Int)) && decide (fld ds (512 * b + 88) 4 = crc32 (pcs ds (512 * f) 16384))) = true → ∃ p, A = some ⟨p, 0, none⟩ ∧ ∃ D cap l, l.map Prod.snd = usedC (pcs ds (512 * f) 16384) 128 ∧ l.length ≤ 128 ∧ OR 93 1 w [bm] w' (⟨p, .cells (tbC D l.length cap 512 512 (gT (pcs ds (512 * b + 56) 16)) (protB (pcs ds 0 512) ((fld ds (512 * b + 24) 8) % 4294967296)) true 128 128 f (fld ds (512 * b + 88) 4) (fld ds (512 * b + 32) 8) (fld ds (512 * b + 24) 8) (fld ds (512 * b + 40) 8) (fld ds (512 * b + 48) 8) true).toArray 75 (0, 0), true⟩ :: ents 96 l) D l.length cap (ptrs l))) := by
  refine enter (fun ρ => .tuple #[ρ 6, ρ 7]) Try.func27 rfl rfl rfl (res2 rfl) ?_
  have H := SH.rw1 hm
  refine sq ?_
  refine rg ?_
  refine asg (v := .pointer _) rfl rfl ?_
  refine asg (v := .nilIface) rfl rfl ?_
  refine nl ?_
  refine then_n ?_
  refine sq ?_
  refine rg ?_
  first | refine mv (v := .nilIface) rfl rfl ?_ | refine mv (v := .iface _ _) rfl rfl ?_ | refine mv rfl rfl ?_
  refine mv (v := .int .i64 _) rfl rfl ?_
  refine mv (v := .int .i64 _) rfl rfl ?_
  refine cl ca35 (c_readPrim _ bm bd L c ds (cell_at (H.look (b := bm))) hd ⟨by omega, hL.2⟩ hLc (by omega) hcan1) rfl ?_
  rintro _ w1 ⟨F, A9, e9, rfl, hie, hif, hce, hok⟩
  replace H := H.keep F
  refine mv (v := .tuple _) rfl rfl ?_
  refine xt rfl rfl rfl ?_
  refine xt rfl rfl rfl ?_
  refine asg (v := .pointer _) rfl rfl ?_
  first | refine asg (v := .nilIface) rfl rfl ?_ | refine asg (v := .iface _ _) rfl rfl ?_ | refine asg rfl rfl ?_
  refine nl ?_
  refine then_n ?_
  refine sq ?_
  refine sq ?_
  refine rg ?_
  first | refine mv (v := .nilIface) rfl rfl ?_ | refine mv (v := .iface _ _) rfl rfl ?_ | refine mv rfl rfl ?_
  first | refine eqlI1 rfl Try.underlying70 rfl ?_ | refine eqlI0 rfl Try.underlying70 rfl ?_ | refine eqlIG rfl Try.underlying70 (by assumption) rfl ?_
  refine nl ?_
  refine then_n ?_
  first | refine cd rfl (fun hc1 => ?_) (fun hc1 => ?_) | refine cn rfl (fun hc1 => ?_) (fun hc1 => ?_)   -- test 1
  · have hg1 : (hdrGood ds 512 && decide (fld ds 600 4 = crc32 (pcs ds 1024 16384))) = true := by exact nb_f hif (by have h8 : (!isIf e9) = true := hc1; cases hq : isIf e9 with | true => rw [hq] at h8; exact Bool.noConfusion h8 | false => rfl)
    obtain ⟨p, rfl, D9, cap9, l9, h1, h2, O⟩ := hok hg1
    refine sq ?_
    refine rg ?_
    refine mv (v := .pointer _) rfl rfl ?_
    refine asg (v := .pointer _) rfl rfl ?_
    refine asg (v := .nilIface) rfl rfl ?_
    refine nl ?_
    refine then_n ?_
    refine rt ?_
    refine then_r ?_
    refine fin_r ?_
    exact ⟨H.fr, ⟨_, H.look⟩, _, _, rfl, .inl rfl, by rw [hg1]; rfl, fun _ => ⟨p, rfl, D9, cap9, l9, h1, h2, O.wide⟩, fun h => by rw [hg1] at h; exact Bool.noConfusion h⟩
  · have hg1 : (hdrGood ds 512 && decide (fld ds 600 4 = crc32 (pcs ds 1024 16384))) = false := by exact nb_t hif (by have h8 : (!isIf e9) = false := hc1; cases hq : isIf e9 with | false => rw [hq] at h8; exact Bool.noConfusion h8 | true => rfl)
    obtain ⟨x9, rfl⟩ := hce hg1
    refine sk ?_
    refine then_n ?_
    refine sq ?_
    refine sq ?_
    refine rg ?_
    first | refine mv (v := .nilIface) rfl rfl ?_ | refine mv (v := .iface _ _) rfl rfl ?_ | refine mv rfl rfl ?_
    refine taP rfl Try.underlying87 rfl rfl ?_
    refine mv (v := .tuple _) rfl rfl ?_
    refine xt rfl rfl rfl ?_
    refine xt rfl rfl rfl ?_
    refine asg (v := .pointer _) rfl rfl ?_
    refine asg (v := .bool _) rfl rfl ?_
    refine nl ?_
    refine then_n ?_
    refine sq ?_
    refine rg ?_
    refine mv (v := .bool _) rfl rfl ?_
    refine unot rfl rfl ?_
    refine nl ?_
    refine then_n ?_
    first | refine cF rfl rfl ?_ | refine cbF rfl rfl ?_   -- test 2
    refine sk ?_
    refine then_n ?_
    refine sq ?_
    refine rg ?_
    first | refine mv (v := .nilIface) rfl rfl ?_ | refine mv (v := .iface _ _) rfl rfl ?_ | refine mv rfl rfl ?_
    refine cl ca36 (c_seekSize _ bm bd L c x1 x2 x3 (H.look (b := bm)) hL.2) rfl ?_
    rintro _ w2 ⟨rfl, F3, hnew⟩
    replace H := H.put (b := bm) F3 hnew; clear F3 hnew
    refine mv (v := .tuple _) rfl rfl ?_
    refine xt rfl rfl rfl ?_
    refine xt rfl rfl rfl ?_
    refine asg (v := .int .i64 _) rfl rfl ?_
    first | refine asg (v := .nilIface) rfl rfl ?_ | refine asg (v := .iface _ _) rfl rfl ?_ | refine asg rfl rfl ?_
    refine nl ?_
    refine then_n ?_
    refine sq ?_
    refine sq ?_
    refine rg ?_
    first | refine mv (v := .nilIface) rfl rfl ?_ | refine mv (v := .iface _ _) rfl rfl ?_ | refine mv rfl rfl ?_
    first | refine neqI1 rfl Try.underlying70 rfl ?_ | refine neqI0 rfl Try.underlying70 rfl ?_ | refine neqIG rfl Try.underlying70 (by assumption) rfl ?_
    refine nl ?_
    refine then_n ?_
    first | refine cF rfl rfl ?_ | refine cbF rfl rfl ?_   -- test 3
    refine sk ?_
    refine then_n ?_
    refine sq ?_
    refine sq ?_
    refine rg ?_
    refine mv (v := .int .i64 _) rfl rfl ?_
    refine mv (v := .int .i64 _) rfl rfl ?_
    refine mul rfl rfl (by first | exact w_i64 (by omega) | exact w_i64 (rng_i64 _) | rfl) rfl ?_
    refine lss rfl rfl rfl ?_
    refine nl ?_
    refine then_n ?_
    first | refine cF rfl (by omega) ?_ | refine cbF rfl (by omega) ?_   -- test 4
    refine sk ?_
    refine then_n ?_
    refine sq ?_
    refine rg ?_
    refine mv (v := .int .i64 _) rfl rfl ?_
    refine mv (v := .int .i64 _) rfl rfl ?_
    refine quo (c := ((b + 1 : Nat) : Int)) rfl rfl (by omega) (by omega) (by rw [w_i64 (by omega)]; omega) rfl ?_
    refine cvi rfl rfl Try.underlying30 (by first | exact w_u64 (by omega) | exact w_u64 (rng_u64 _) | exact m_u64 _) rfl ?_
    refine sub (c := (b : Int)) rfl rfl (by rw [w_u64 (by omega)]; omega) rfl ?_
    refine asg (v := .int .u64 _) rfl rfl ?_
    refine nl ?_
    refine then_n ?_
    refine sq ?_
    refine rg ?_
    first | refine mv (v := .nilIface) rfl rfl ?_ | refine mv (v := .iface _ _) rfl rfl ?_ | refine mv rfl rfl ?_
    refine mv (v := .int .i64 _) rfl rfl ?_
    refine mv (v := .int .i64 _) rfl rfl ?_
    refine mv (v := .int .u64 _) rfl rfl ?_
    refine cl ca38 (c_readBack _ b f bm bd L c ds (cell_at (H.look (b := bm))) (hd.now H.fr (by simpa using Ne.symm hne)) ⟨by omega, hL.2⟩ hLc (by omega) hf hcan2) rfl ?_
    rintro _ w3 ⟨F2, A10, e10, rfl, hie2, hif2, hok2⟩
    refine mv (v := .tuple _) rfl rfl ?_
    refine xt rfl rfl rfl ?_
    refine xt rfl rfl rfl ?_
    refine asg (v := .pointer _) rfl rfl ?_
    first | refine asg (v := .nilIface) rfl rfl ?_ | refine asg (v := .iface _ _) rfl rfl ?_ | refine asg rfl rfl ?_
    refine nl ?_
    refine then_n ?_
    refine sq ?_
    refine sq ?_
    refine rg ?_
    first | refine mv (v := .nilIface) rfl rfl ?_ | refine mv (v := .iface _ _) rfl rfl ?_ | refine mv rfl rfl ?_
    first | refine neqI1 rfl Try.underlying70 rfl ?_ | refine neqI0 rfl Try.underlying70 rfl ?_ | refine neqIG rfl Try.underlying70 (by assumption) rfl ?_
    refine nl ?_
    refine then_n ?_
    first | refine cd rfl (fun hc5 => ?_) (fun hc5 => ?_) | refine cn rfl (fun hc5 => ?_) (fun hc5 => ?_)   -- test 5
    · replace H := H.keep F2
      have hg2 : (hdrGood ds (512 * b) && decide (fld ds (512 * b + 24) 8 = (b : Int)) && decide (fld ds (512 * b + 88) 4 = crc32 (pcs ds (512 * f) 16384))) = false := nb_t hif2 hc5
      refine sq ?_
      refine rg ?_
      refine cl ca37 (c_errNew _ _) rfl ?_
      rintro _ w4 ⟨⟨be1, rfl⟩, F⟩
      replace H := H.keep F; clear F
      refine asg (v := .pointer _) rfl rfl ?_
      first | refine asg (v := .nilIface) rfl rfl ?_ | refine asg (v := .iface _ _) rfl rfl ?_ | refine asg rfl rfl ?_
      refine nl ?_
      refine then_n ?_
      refine rt ?_
      refine then_r ?_
      refine fin_r ?_
      exact ⟨H.fr, ⟨_, H.look⟩, _, _, rfl, .inr ⟨_, _, rfl⟩, by rw [hg1, hg2]; rfl, fun h => by rw [hg1] at h; exact Bool.noConfusion h, fun _ h => by rw [hg2] at h; exact Bool.noConfusion h⟩
    · have hg2 : (hdrGood ds (512 * b) && decide (fld ds (512 * b + 24) 8 = (b : Int)) && decide (fld ds (512 * b + 88) 4 = crc32 (pcs ds (512 * f) 16384))) = true := nb_f hif2 hc5
      obtain ⟨p, rfl, D9, cap9, l9, h1, h2, O⟩ := hok2 hg2
      replace O := O.joinN H ents_m1
      simp only [List.cons_append, List.nil_append] at O
      replace H := O.sh
      refine sk ?_
      refine then_n ?_
      refine sq ?_
      refine rg ?_
      refine mv (v := .pointer _) rfl rfl ?_
      first | refine nc rfl rfl ?_ | refine nci rfl rfl ?_
      refine fa rfl fo75_5 rfl ?_
      refine st (v := .bool _) H rfl rfl sc4 rfl (by show 0 + 5 < 15; decide) (by omega) ?_
      intro w95 H1 F; replace O := O.put F H1.look; clear H H1 F; have H := O.sh
      refine nl ?_
      refine then_n ?_
      refine sq ?_
      refine rg ?_
      refine mv (v := .pointer _) rfl rfl ?_
      refine asg (v := .pointer _) rfl rfl ?_
      refine asg (v := .nilIface) rfl rfl ?_
      refine nl ?_
      refine then_n ?_
      refine rt ?_
      refine fin_r ?_
      exact ⟨H.fr, ⟨_, H.look⟩, _, _, rfl, .inl rfl, by rw [hg1, hg2]; rfl, fun h => by rw [hg1] at h; exact Bool.noConfusion h, fun _ _ => ⟨p, rfl, D9, cap9, l9, h1, h2, O.sub (List.Sublist.cons _ (List.Sublist.refl _))⟩⟩

end Go.Proofs.Ythcaejaaalkglaa.X
/- Walks of functions, printed by a program of this claim. -/
namespace Go.Proofs.Ythcaejaaalkglaa.X
set_option linter.unusedVariables false
set_option linter.unusedSimpArgs false
open Go Go.RowKit

namespace P22
theorem ca25 : callable Try.prog 25 = true := by kernel_rfl
theorem ca26 : callable Try.prog 26 = true := by kernel_rfl
theorem ca27 : callable Try.prog 27 = true := by kernel_rfl
theorem cc50 : Try.prog.concrete 50 = true := by kernel_rfl
theorem fo68_0 : fieldOff Try.prog 68 0 = some 0 := by kernel_rfl
theorem sc23 : scalarB Try.prog 23 = true := by kernel_rfl

end P22
open P22

set_option maxRecDepth 100000 in
set_option maxHeartbeats 1000000 in
theorem c_implRead (w : World) (bm bd L c : Nat) (x1 x2 x3 : Value) (ds : List UInt8) (hm : w.heap[bm]? = some (.cells [.slice (some ⟨bd, 0, none⟩) L c, x1, x2, x3].toArray 68 (0, 0))) (hd : RB w (some ⟨bd, 0, none⟩) L ds) (hne : bm ≠ bd) (hL : 34816 ≤ L ∧ L ≤ 1000000000) (hLc : L ≤ c) (b f : Nat) (hLb : L = 512 * (b + 1)) (hf : 512 * f + 16384 ≤ L) (hcan1 : hdrGood ds 512 = true → fld ds 584 8 = 2 ∧ fld ds 592 4 = 128 ∧ fld ds 596 4 = 128) (hcan2 : hdrGood ds (512 * b) = true → fld ds (512 * b + 72) 8 = (f : Int) ∧ fld ds (512 * b + 80) 4 = 128 ∧ fld ds (512 * b + 84) 4 = 128) (hfit1 : fitsB ds 512 512 = true) (hfit2 : fitsB ds 512 (512 * b) = true) : Calls Try.prog 13 #[.pointer (some ⟨bm, 0, none⟩), .int .i64 512] w (Ret fun v w' => Fr [bm] w w' ∧ (∃ x, w'.heap[bm]? = some (.cells [.slice (some ⟨bd, 0, none⟩) L c, x, x2, x3].toArray 68 (0, 0))) ∧ ∃ A, v = .tuple #[.pointer A, .bool ((hdrGood ds 512 && decide (fld ds 600 4 = crc32 (pcs ds 1024 16384))) || (hdrGood ds (512 * b) && decide (fld ds (512 * b + 24) 8 = (b : Int)) && decide (fld ds (512 * b + 88) 4 = crc32 (pcs ds (512 * f) 16384))))] ∧ ((hdrGood ds 512 && decide (fld ds 600 4 = crc32 (pcs ds 1024 16384))) = true → ∃ p, A = some ⟨p, 0, none⟩ ∧ ∃ D cap l, l.map Prod.snd = usedC (pcs ds 1024 16384) 128 ∧ l.length ≤ 128 ∧ OR 93 1 w [bm] w' (⟨p, .cells (tbC D l.length cap 512 512 (gT (pcs ds 568 16)) (protB (pcs ds 0 512) (fld ds 544 8 % 4294967296)) false 128 128 2 (fld ds (600) 4) (fld ds (536) 8) (fld ds (544) 8) (fld ds (552) 8) (fld ds (560) 8) true).toArray 75 (0, 0), true⟩ :: ents 96 l) D l.length cap (ptrs l)) ∧ ((hdrGood ds 512 && decide (fld ds 600 4 = crc32 (pcs ds 1024 16384))) = false → (hdrGood ds (512 * b) && decide (fld ds (512 * b + 24) 8 = (b : Int)) && decide (fld ds (512 * b + 88) 4 = crc32 (pcs ds (512 * f) 16384))) = true → ∃ p, A = some ⟨p, 0, none⟩ ∧ ∃ D cap l, l.map Prod.snd = usedC (pcs ds (512 * f) 16384) 128 ∧ l.length ≤ 128 ∧ OR 93 1 w [bm] w' (⟨p, .cells (tbC D l.length cap 512 512 (gT (pcs ds (512 * b + 56) 16)) (protB (pcs ds 0 512) ((fld ds (512 * b + 24) 8) % 4294967296)) true 128 128 f (fld ds (512 * b + 88) 4) (fld ds (512 * b + 32) 8) (fld ds (512 * b + 24) 8) (fld ds (512 * b + 40) 8) (fld ds (512 * b + 48) 8) true).toArray 75 (0, 0), true⟩ :: ents 96 l) D l.length cap (ptrs l))) := by
  refine enter (fun ρ => .tuple #[ρ 4, ρ 5]) Try.func13 rfl rfl rfl (res2 rfl) ?_
  have H := SH.rw1 hm
  refine sq ?_
  refine rg ?_
  refine asg (v := .pointer _) rfl rfl ?_
  refine asg (v := .bool _) rfl rfl ?_
  refine nl ?_
  refine then_n ?_
  refine sq ?_
  refine sq ?_
  refine dr (by kernel_rfl) ?_   -- region 1
  have H := H.drew
  refine holdH H [] ?_
  refine tk (i := 0) rfl (by kernel_rfl) rfl H (fun w' H => r_mv (v := .int .i64 _) rfl) ?_
  refine fk (i := 1) (by kernel_rfl) rfl rfl rfl ?_
  refine cl ca25 (c_secAsked _ 512 (by decide)) rfl ?_
  rintro _ w1 ⟨rfl, F⟩
  replace H := H.keep F; clear F
  refine nl ?_
  refine then_n ?_
  refine ⟨H, ?_⟩
  refine tk (i := 2) rfl (by kernel_rfl) rfl H (fun w' H => r_unot rfl) ?_
  refine tk (i := 3) rfl (by kernel_rfl) rfl H (fun w' H => r_mv (v := .bool _) rfl) ?_
  first | refine spaL (t := 11) (b := false) rfl ?_ | refine spaF (t := 11) rfl rfl ?_   -- guard 1
  refine tkg (i := 4) rfl (by kernel_rfl) rfl H rfl (fun w' H => r_mv (v := .pointer _) rfl) ?_
  first | refine tkg (i := 5) rfl (by kernel_rfl) rfl H rfl (fun w' H => r_nc rfl) ?_ | refine tkg (i := 5) rfl (by kernel_rfl) rfl H rfl (fun w' H => r_nci rfl) ?_
  refine tkg (i := 6) rfl (by kernel_rfl) rfl H rfl (fun w' H => r_fa rfl fo68_0) ?_
  first | refine tkg (i := 7) rfl (by kernel_rfl) rfl H rfl (fun w' H => r_ld H rfl sc23 rfl) ?_ | refine tkg (i := 7) rfl (by kernel_rfl) rfl H rfl (fun w' H => r_lc rfl (by first | assumption | exact H.fr.cell (by assumption) (by simp)) sc23) ?_ | refine tkg (i := 7) rfl (by kernel_rfl) rfl H rfl (fun w' H => r_ld H rfl sc23 (by assumption)) ?_
  refine tkg (i := 8) rfl (by kernel_rfl) rfl H rfl (fun w' H => r_mv (v := .int .i64 _) rfl) ?_
  refine tkg (i := 9) rfl (by kernel_rfl) rfl H rfl (fun w' H => r_mv (v := .int .i64 _) rfl) ?_
  refine fk (i := 10) (by kernel_rfl) rfl rfl rfl ?_
  refine gy rfl ?_
  refine cl ca26 (c_gptFits _ bd L c 512 512 ds (hd.now H.fr (by simpa using Ne.symm hne)) (by omega) hL.2 hLc (by decide)) rfl ?_
  rintro _ w2 ⟨rfl, F⟩
  replace H := H.keep F; clear F
  rw [hfit1]
  refine nl ?_
  refine then_n ?_
  refine ⟨H, ?_⟩
  refine tkg (i := 11) rfl (by kernel_rfl) rfl H rfl (fun w' H => r_unot rfl) ?_
  refine tk (i := 12) rfl (by kernel_rfl) rfl H (fun w' H => r_pkF (v := .bool _) rfl rfl) ?_
  refine tk (i := 13) rfl (by kernel_rfl) rfl H (fun w' H => r_mv (v := .bool _) rfl) ?_
  first | refine spaL (t := 21) (b := false) rfl ?_ | refine spaF (t := 21) rfl rfl ?_   -- guard 2
  refine tkg (i := 14) rfl (by kernel_rfl) rfl H rfl (fun w' H => r_mv (v := .pointer _) rfl) ?_
  first | refine tkg (i := 15) rfl (by kernel_rfl) rfl H rfl (fun w' H => r_nc rfl) ?_ | refine tkg (i := 15) rfl (by kernel_rfl) rfl H rfl (fun w' H => r_nci rfl) ?_
  refine tkg (i := 16) rfl (by kernel_rfl) rfl H rfl (fun w' H => r_fa rfl fo68_0) ?_
  first | refine tkg (i := 17) rfl (by kernel_rfl) rfl H rfl (fun w' H => r_ld H rfl sc23 rfl) ?_ | refine tkg (i := 17) rfl (by kernel_rfl) rfl H rfl (fun w' H => r_lc rfl (by first | assumption | exact H.fr.cell (by assumption) (by simp)) sc23) ?_ | refine tkg (i := 17) rfl (by kernel_rfl) rfl H rfl (fun w' H => r_ld H rfl sc23 (by assumption)) ?_
  refine tkg (i := 18) rfl (by kernel_rfl) rfl H rfl (fun w' H => r_mv (v := .int .i64 _) rfl) ?_
  refine tkg (i := 19) rfl (by kernel_rfl) rfl H rfl (fun w' H => r_mv (v := .pointer _) rfl) ?_
  first | refine tkg (i := 20) rfl (by kernel_rfl) rfl H rfl (fun w' H => r_nc rfl) ?_ | refine tkg (i := 20) rfl (by kernel_rfl) rfl H rfl (fun w' H => r_nci rfl) ?_
  refine tkg (i := 21) rfl (by kernel_rfl) rfl H rfl (fun w' H => r_fa rfl fo68_0) ?_
  first | refine tkg (i := 22) rfl (by kernel_rfl) rfl H rfl (fun w' H => r_ld H rfl sc23 rfl) ?_ | refine tkg (i := 22) rfl (by kernel_rfl) rfl H rfl (fun w' H => r_lc rfl (by first | assumption | exact H.fr.cell (by assumption) (by simp)) sc23) ?_ | refine tkg (i := 22) rfl (by kernel_rfl) rfl H rfl (fun w' H => r_ld H rfl sc23 (by assumption)) ?_
  refine tkg (i := 23) rfl (by kernel_rfl) rfl H rfl (fun w' H => r_lnS rfl Try.underlying23) ?_
  refine tkg (i := 24) rfl (by kernel_rfl) rfl H rfl (fun w' H => r_mv (v := .int .i64 _) rfl) ?_
  refine tkg (i := 25) rfl (by kernel_rfl) rfl H rfl (fun w' H => r_quo (c := ((b + 1 : Nat) : Int)) rfl rfl (by omega) (by omega) (by rw [w_i64 (by omega)]; omega)) ?_
  refine tkg (i := 26) rfl (by kernel_rfl) rfl H rfl (fun w' H => r_mv (v := .int .i64 _) rfl) ?_
  refine tkg (i := 27) rfl (by kernel_rfl) rfl H rfl (fun w' H => r_mul (c := ((512 * (b + 1) : Nat) : Int)) rfl rfl (by rw [w_i64 (by omega)]; omega)) ?_
  refine tkg (i := 28) rfl (by kernel_rfl) rfl H rfl (fun w' H => r_mv (v := .int .i64 _) rfl) ?_
  refine tkg (i := 29) rfl (by kernel_rfl) rfl H rfl (fun w' H => r_sub (c := ((512 * b : Nat) : Int)) rfl rfl (by rw [w_i64 (by omega)]; omega)) ?_
  refine fk (i := 30) (by kernel_rfl) rfl rfl rfl ?_
  refine gy rfl ?_
  refine cl ca26 (c_gptFits _ bd L c 512 (512 * b) ds (hd.now H.fr (by simpa using Ne.symm hne)) (by omega) hL.2 hLc (by decide)) rfl ?_
  rintro _ w3 ⟨rfl, F⟩
  replace H := H.keep F; clear F
  rw [hfit2]
  refine nl ?_
  refine then_n ?_
  refine ⟨H, ?_⟩
  refine tkg (i := 31) rfl (by kernel_rfl) rfl H rfl (fun w' H => r_unot rfl) ?_
  refine tk (i := 32) rfl (by kernel_rfl) rfl H (fun w' H => r_pkF (v := .bool _) rfl rfl) ?_
  refine da (by kernel_rfl) ?_
  refine then_n ?_
  first | refine cF rfl rfl ?_ | refine cbF rfl rfl ?_   -- test 1
  refine sk ?_
  refine then_n ?_
  refine sq ?_
  refine rg ?_
  refine mv (v := .pointer _) rfl rfl ?_
  refine mi (v := .pointer _) rfl cc50 rfl ?_
  refine mv (v := .int .i64 _) rfl rfl ?_
  refine mv (v := .int .i64 _) rfl rfl ?_
  refine cl ca27 (c_gptRead _ bm bd L c x1 x2 x3 ds (H.look (b := bm)) (hd.now H.fr (by simpa using Ne.symm hne)) hne hL hLc b f hLb hf hcan1 hcan2) rfl ?_
  have F0 := H.fr
  rintro _ w4 ⟨F, ⟨x9, hm9⟩, A9, e9, rfl, hie, hif, hr1, hr2⟩
  replace H := H.put (b := bm) F hm9
  refine mv (v := .tuple _) rfl rfl ?_
  refine xt rfl rfl rfl ?_
  refine xt rfl rfl rfl ?_
  refine asg (v := .pointer _) rfl rfl ?_
  first | refine asg (v := .nilIface) rfl rfl ?_ | refine asg (v := .iface _ _) rfl rfl ?_ | refine asg rfl rfl ?_
  refine nl ?_
  refine then_n ?_
  refine sq ?_
  refine dr (by kernel_rfl) ?_   -- region 4
  have H := H.drew
  refine hold (fun _ => True) [] ?_
  refine tk (i := 0) rfl (by kernel_rfl) rfl trivial (fun _ _ => r_mv (v := .pointer _) rfl) ?_
  first | refine tk (i := 1) rfl (by kernel_rfl) rfl trivial (fun _ _ => r_mv (v := .nilIface) rfl) ?_ | refine tk (i := 1) rfl (by kernel_rfl) rfl trivial (fun _ _ => r_mv (v := .iface _ _) rfl) ?_ | refine tk (i := 1) rfl (by kernel_rfl) rfl trivial (fun _ _ => r_mv rfl) ?_
  first | refine tk (i := 2) rfl (by kernel_rfl) rfl trivial (fun _ _ => r_eqlI1 rfl Try.underlying70) ?_ | refine tk (i := 2) rfl (by kernel_rfl) rfl trivial (fun _ _ => r_eqlI0 rfl Try.underlying70) ?_ | refine tk (i := 2) rfl (by kernel_rfl) rfl trivial (fun _ _ => r_eqlIG rfl Try.underlying70 (by assumption)) ?_
  refine tk (i := 3) rfl (by kernel_rfl) rfl trivial (fun _ _ => r_asg (v := .pointer _) rfl) ?_
  refine tk (i := 4) rfl (by kernel_rfl) rfl trivial (fun _ _ => r_asg (v := .bool _) rfl) ?_
  refine unfree ?_
  refine dn (by kernel_rfl) ?_
  refine then_n ?_
  refine rt ?_
  refine fin_r ?_
  refine ⟨H.fr, ⟨x9, hm9⟩, A9, ?_, fun h => ?_, fun h1 h2 => ?_⟩
  · show Value.tuple #[.pointer A9, .bool (!isIf e9)] = _
    rw [hif, Bool.not_not]
  · obtain ⟨p, hp, D, cap, l, k1, k2, O⟩ := hr1 h
    exact ⟨p, hp, D, cap, l, k1, k2, (O.backS F0).drew⟩
  · obtain ⟨p, hp, D, cap, l, k1, k2, O⟩ := hr2 h1 h2
    exact ⟨p, hp, D, cap, l, k1, k2, (O.backS F0).drew⟩

end Go.Proofs.Ythcaejaaalkglaa.X
/- What the package tells of a table. -/
namespace Go.Proofs.Ythcaejaaalkglaa.X
set_option linter.unusedVariables false
open Go Go.RowKit
/-- A partition's cells, of the package's own kind. -/
def pc (p : GP) : List Value := p.cells ++ [.int .i64 512, .int .i64 512]
def gpE (k : Int) (e : List UInt8) : GP := ⟨k, fld e 32 8, fld e 40 8, szE e, gT (pcs e 0 16), nmB e, gT (pcs e 16 16), fld e 48 8⟩
theorem entC_pc (k : Int) (e : List UInt8) : entC k (szE e) e = pc (gpE k e) := rfl
def useP (ar : List UInt8) (j : Nat) : Option GP := if freeE (entA ar j) then none else some (gpE ((j : Int) + 1) (entA ar j))
def usedP (ar : List UInt8) (i : Nat) : List GP := (List.range i).filterMap (useP ar)
theorem usedC_P (ar : List UInt8) (i : Nat) : usedC ar i = (usedP ar i).map pc := by
  unfold usedC usedP
  rw [List.map_filterMap]
  congr 1
  funext j
  unfold useJ useP
  split <;> simp [entC_pc]
/-- A row of pointers to partitions, to be read. -/
def PR (T : TypeId) (w : World) (D : Option Addr) (l : PL) : Prop := ∀ i x, l[i]? = some x → ∃ ad, D = some ad ∧ w.cell? (ad.add i) = some (.pointer (some ⟨x.1, 0, none⟩)) ∧ w.heap[x.1]? = some (.cells x.2.toArray T (0, 0))
theorem OR.pr {T e : TypeId} {w0 w : World} {S : List Nat} {L : List Ent} {D : Option Addr} {k cap : Nat} {l : PL} (O : OR e 1 w0 S w L D k cap (ptrs l)) (hs : ∀ x ∈ ents T l, x ∈ L) : PR T w D l := by
  intro i x hx
  have hi := (List.getElem?_eq_some_iff.1 hx).1
  have hl : l.length = k := by have := O.len; simpa [ptrs_len] using this
  obtain ⟨ad, rfl⟩ := O.some_of (by omega)
  exact ⟨ad, rfl, O.one (ptrs_get hx), O.sh.ptr hs hx⟩
theorem PR.keep {T : TypeId} {w w' : World} {D : Option Addr} {l : PL} (h : PR T w D l) (f : Fr [] w w') : PR T w' D l := fun i x hx => by
  obtain ⟨ad, e, h1, h2⟩ := h i x hx
  exact ⟨ad, e, f.cell h1 (by simp), f.at h2 (by simp)⟩
/-- Are two partitions the same to the statements? -/
def sameP (p q : GP) : Bool := decide (p.ix = q.ix) && (decide (p.st = q.st) && (decide (p.en = q.en) && (decide (p.sz = q.sz) && (sameG p.ty q.ty && (sameG p.gu q.gu && (decide (p.nm = q.nm) && decide (p.att = q.att)))))))
def sameT (g h : List UInt8) (ps qs : List GP) : Bool := sameG g h && (decide (ps.length = qs.length) && (ps.zip qs).all fun x => sameP x.1 x.2)
theorem sameT_t {g h : List UInt8} {ps qs : List GP} (h1 : sameG g h = true) (h2 : ps.length = qs.length) (h3 : ∀ j p q, j < ps.length → ps[j]? = some p → qs[j]? = some q → sameP p q = true) : sameT g h ps qs = true := by
  unfold sameT
  rw [h1, decide_eq_true h2, Bool.true_and, Bool.true_and, List.all_eq_true]
  intro x hx
  obtain ⟨j, hj, e⟩ := List.mem_iff_getElem.1 hx
  rw [List.getElem_zip] at e
  have hj' : j < ps.length ∧ j < qs.length := by rw [List.length_zip] at hj; omega
  exact h3 j x.1 x.2 hj'.1 (by rw [List.getElem?_eq_getElem hj'.1, ← e]) (by rw [List.getElem?_eq_getElem hj'.2, ← e])
theorem sameT_f {g h : List UInt8} {ps qs : List GP} {j : Nat} {p q : GP} (hp : ps[j]? = some p) (hq : qs[j]? = some q) (h3 : sameP p q = false) : sameT g h ps qs = false := by
  unfold sameT
  have hj1 := (List.getElem?_eq_some_iff.1 hp)
  have hj2 := (List.getElem?_eq_some_iff.1 hq)
  obtain ⟨a1, a2⟩ := hj1
  obtain ⟨c1, c2⟩ := hj2
  have : ((ps.zip qs).all fun x => sameP x.1 x.2) = false := by
    rw [List.all_eq_false]
    refine ⟨(p, q), ?_, by simp [h3]⟩
    rw [List.mem_iff_getElem]
    exact ⟨j, by simp; omega, by rw [List.getElem_zip, a2, c2]⟩
  rw [this]; simp
theorem sameS_next {ps qs : List GP} {i : Nat} {p q : GP} (h : ∀ j p q, j < i → ps[j]? = some p → qs[j]? = some q → sameP p q = true) (hp : ps[i]? = some p) (hq : qs[i]? = some q) (h2 : sameP p q = true) : ∀ j p q, j < i + 1 → ps[j]? = some p → qs[j]? = some q → sameP p q = true := fun j p' q' hj h1 h3 => by
  rcases Nat.lt_or_ge j i with h4 | h4
  · exact h j p' q' h4 h1 h3
  · obtain rfl : j = i := by omega
    rw [hp] at h1; rw [hq] at h3
    cases h1; cases h3; exact h2
/-- The identifier of an entry that is not in use. -/
def zG : List UInt8 := [48, 48, 48, 48, 48, 48, 48, 48, 45, 48, 48, 48, 48, 45, 48, 48, 48, 48, 45, 48, 48, 48, 48, 45, 48, 48, 48, 48, 48, 48, 48, 48, 48, 48, 48, 48]
def keepP (ps : List GP) : List GP := ps.filter fun p => !(sameG p.ty zG)
theorem keepP_t {ps : List GP} {i : Nat} {p : GP} (h : ps[i]? = some p) (h2 : sameG p.ty zG = false) : keepP (ps.take (i + 1)) = keepP (ps.take i) ++ [p] := by
  unfold keepP
  rw [take_succ_get h, List.filter_append]
  simp [h2]
theorem keepP_f {ps : List GP} {i : Nat} {p : GP} (h : ps[i]? = some p) (h2 : sameG p.ty zG = true) : keepP (ps.take (i + 1)) = keepP (ps.take i) := by
  unfold keepP
  rw [take_succ_get h, List.filter_append]
  simp [h2]
theorem keepP_le (ps : List GP) : (keepP ps).length ≤ ps.length := List.length_filter_le _ _
/-- The small table of the statements. -/
def gS : List UInt8 := [52, 51, 69, 53, 49, 56, 57, 50, 45, 51, 50, 55, 51, 45, 52, 50, 70, 55, 45, 66, 67, 68, 65, 45, 66, 52, 51, 66, 56, 48, 67, 68, 70, 67, 52, 56]
def pS : GP := ⟨1, 40, 49, 5120, [48, 70, 67, 54, 51, 68, 65, 70, 45, 56, 52, 56, 51, 45, 52, 55, 55, 50, 45, 56, 69, 55, 57, 45, 51, 68, 54, 57, 68, 56, 52, 55, 55, 68, 69, 52], [97], [48, 48, 48, 48, 48, 48, 48, 48, 45, 48, 48, 48, 48, 45, 48, 48, 48, 48, 45, 48, 48, 48, 48, 45, 48, 48, 48, 48, 48, 48, 48, 48, 48, 48, 65, 49], 0⟩
theorem pS_ok : pS.ok := ⟨by decide, by decide, by decide, by decide, by decide⟩
end Go.Proofs.Ythcaejaaalkglaa.X
/- Walks of functions, printed by a program of this claim. -/
namespace Go.Proofs.Ythcaejaaalkglaa.X
set_option linter.unusedVariables false
set_option linter.unusedSimpArgs false
open Go Go.RowKit

namespace P23
theorem ag28_5 : aggB Try.prog 28 5 = true := by kernel_rfl
theorem bo28 : buildOK Try.prog 28 = true := by kernel_rfl
theorem bo46 : buildOK Try.prog 46 = true := by kernel_rfl
theorem fo28_0 : fieldOff Try.prog 28 0 = some 0 := by kernel_rfl
theorem fo75_0 : fieldOff Try.prog 75 0 = some 0 := by kernel_rfl
theorem fo75_1 : fieldOff Try.prog 75 1 = some 1 := by kernel_rfl
theorem fo75_3 : fieldOff Try.prog 75 3 = some 3 := by kernel_rfl
theorem fo75_4 : fieldOff Try.prog 75 4 = some 4 := by kernel_rfl
theorem fo75_5 : fieldOff Try.prog 75 5 = some 5 := by kernel_rfl
theorem fo96_0 : fieldOff Try.prog 96 0 = some 0 := by kernel_rfl
theorem fo96_1 : fieldOff Try.prog 96 1 = some 1 := by kernel_rfl
theorem fo96_2 : fieldOff Try.prog 96 2 = some 2 := by kernel_rfl
theorem fo96_3 : fieldOff Try.prog 96 3 = some 3 := by kernel_rfl
theorem fo96_4 : fieldOff Try.prog 96 4 = some 4 := by kernel_rfl
theorem fo96_5 : fieldOff Try.prog 96 5 = some 5 := by kernel_rfl
theorem fo96_6 : fieldOff Try.prog 96 6 = some 6 := by kernel_rfl
theorem fo96_7 : fieldOff Try.prog 96 7 = some 7 := by kernel_rfl
theorem pl28_1 : placeOf Try.prog 28 1 = some (1, 1) := by kernel_rfl
theorem pl28_2 : placeOf Try.prog 28 2 = some (2, 1) := by kernel_rfl
theorem pl28_3 : placeOf Try.prog 28 3 = some (3, 1) := by kernel_rfl
theorem pl28_4 : placeOf Try.prog 28 4 = some (4, 1) := by kernel_rfl
theorem pl46_0 : placeOf Try.prog 46 0 = some (0, 1) := by kernel_rfl
theorem pl46_1 : placeOf Try.prog 46 1 = some (1, 1) := by kernel_rfl
theorem pl46_2 : placeOf Try.prog 46 2 = some (2, 1) := by kernel_rfl
theorem pl46_3 : placeOf Try.prog 46 3 = some (3, 1) := by kernel_rfl
theorem pl46_4 : placeOf Try.prog 46 4 = some (4, 1) := by kernel_rfl
theorem pl46_5 : placeOf Try.prog 46 5 = some (5, 1) := by kernel_rfl
theorem pl46_6 : placeOf Try.prog 46 6 = some (6, 1) := by kernel_rfl
theorem pl46_7 : placeOf Try.prog 46 7 = some (7, 1) := by kernel_rfl
theorem ri46 : rowInfo Try.prog 46 = some ([.int .i64 0, .int .u64 0, .int .u64 0, .int .u64 0, .string ⟨#[]⟩, .string ⟨#[]⟩, .string ⟨#[]⟩, .int .u64 0], 88) := by kernel_rfl
theorem sc26 : scalarB Try.prog 26 = true := by kernel_rfl
theorem sc3 : scalarB Try.prog 3 = true := by kernel_rfl
theorem sc30 : scalarB Try.prog 30 = true := by kernel_rfl
theorem sc4 : scalarB Try.prog 4 = true := by kernel_rfl
theorem sc73 : scalarB Try.prog 73 = true := by kernel_rfl
theorem sc9 : scalarB Try.prog 9 = true := by kernel_rfl
theorem sc93 : scalarB Try.prog 93 = true := by kernel_rfl
theorem sc94 : scalarB Try.prog 94 = true := by kernel_rfl
theorem sz46_8 : sizeB Try.prog 46 8 = true := by kernel_rfl
theorem sz93_1 : sizeB Try.prog 93 1 = true := by kernel_rfl
theorem ze28 : zeroL Try.prog 28 = some [.slice none 0 0, .int .i64 0, .string ⟨#[]⟩, .bool false, .bool false] := by kernel_rfl
theorem ze46 : zeroL Try.prog 46 = some [.int .i64 0, .int .u64 0, .int .u64 0, .int .u64 0, .string ⟨#[]⟩, .string ⟨#[]⟩, .string ⟨#[]⟩, .int .u64 0] := by kernel_rfl

end P23
open P23

set_option maxRecDepth 100000 in
set_option maxHeartbeats 1000000 in
theorem c_told (w : World) (p : Nat) (D : Option Addr) (cap : Nat) (l : PL) (qs : List GP) (g : List UInt8) (pr rb ini : Bool) (cnt esz frm crc my oth fi lx : Int) (hp : w.heap[p]? = some (.cells (tbC D l.length cap 512 512 g pr rb cnt esz frm crc my oth fi lx ini).toArray 75 (0, 0))) (hr : PR 96 w D l) (hl : l.map Prod.snd = qs.map pc) (hm : l.length ≤ 200) : Calls Try.prog 28 #[.pointer (some ⟨p, 0, none⟩)] w (Ret fun v w' => ∃ D2 cap2, v = .agg (gtCells D2 l.length cap2 512 g pr rb).toArray ∧ OR 46 8 w [] w' [] D2 l.length cap2 (qs.flatMap GP.cells)) := by
  refine enterR [.cell 2 28] Try.func28 rfl rfl rfl rfl ?_
  have H := SH.nil w
  have hql : qs.length = l.length := by have := congrArg List.length hl; simpa using this.symm
  have t0 : w.cell? ⟨p, 0, none⟩ = some (.slice D l.length cap) := cell_at hp
  have t1 : w.cell? ⟨p, 1, none⟩ = some (.int .i64 512) := cell_at hp
  have t3 : w.cell? ⟨p, 3, none⟩ = some (.string (str g)) := cell_at hp
  have t4 : w.cell? ⟨p, 4, none⟩ = some (.bool pr) := cell_at hp
  have t5 : w.cell? ⟨p, 5, none⟩ = some (.bool rb) := cell_at hp
  refine sq ?_
  refine rg ?_
  refine al H ze28 rfl ?_
  clear H; intro b1 w1 hb1 H _
  refine nl ?_
  refine then_n ?_
  refine sq ?_
  refine dr (by kernel_rfl) ?_   -- region 1
  have H := H.drew
  refine hold (fun _ => True) [] ?_
  refine tk (i := 0) rfl (by kernel_rfl) rfl trivial (fun _ _ => r_mv (v := .pointer _) rfl) ?_
  first | refine tk (i := 1) rfl (by kernel_rfl) rfl trivial (fun _ _ => r_nc rfl) ?_ | refine tk (i := 1) rfl (by kernel_rfl) rfl trivial (fun _ _ => r_nci rfl) ?_
  refine tk (i := 2) rfl (by kernel_rfl) rfl trivial (fun _ _ => r_fa rfl fo75_1) ?_
  refine tk (i := 4) rfl (by kernel_rfl) rfl trivial (fun _ _ => r_mv (v := .pointer _) rfl) ?_
  first | refine tk (i := 5) rfl (by kernel_rfl) rfl trivial (fun _ _ => r_nc rfl) ?_ | refine tk (i := 5) rfl (by kernel_rfl) rfl trivial (fun _ _ => r_nci rfl) ?_
  refine tk (i := 6) rfl (by kernel_rfl) rfl trivial (fun _ _ => r_fa rfl fo75_3) ?_
  refine tk (i := 8) rfl (by kernel_rfl) rfl trivial (fun _ _ => r_mv (v := .pointer _) rfl) ?_
  first | refine tk (i := 9) rfl (by kernel_rfl) rfl trivial (fun _ _ => r_nc rfl) ?_ | refine tk (i := 9) rfl (by kernel_rfl) rfl trivial (fun _ _ => r_nci rfl) ?_
  refine tk (i := 10) rfl (by kernel_rfl) rfl trivial (fun _ _ => r_fa rfl fo75_4) ?_
  refine tk (i := 12) rfl (by kernel_rfl) rfl trivial (fun _ _ => r_mv (v := .pointer _) rfl) ?_
  first | refine tk (i := 13) rfl (by kernel_rfl) rfl trivial (fun _ _ => r_nc rfl) ?_ | refine tk (i := 13) rfl (by kernel_rfl) rfl trivial (fun _ _ => r_nci rfl) ?_
  refine tk (i := 14) rfl (by kernel_rfl) rfl trivial (fun _ _ => r_fa rfl fo75_5) ?_
  refine unfree ?_
  refine holdH H [18] ?_
  first | refine tk (i := 3) rfl (by kernel_rfl) rfl H (fun w' H => r_ld H rfl sc3 rfl) ?_ | refine tk (i := 3) rfl (by kernel_rfl) rfl H (fun w' H => r_lc rfl (by first | assumption | exact H.fr.cell (by assumption) (by simp)) sc3) ?_ | refine tk (i := 3) rfl (by kernel_rfl) rfl H (fun w' H => r_ld H rfl sc3 (by assumption)) ?_
  first | refine tk (i := 7) rfl (by kernel_rfl) rfl H (fun w' H => r_ld H rfl sc9 rfl) ?_ | refine tk (i := 7) rfl (by kernel_rfl) rfl H (fun w' H => r_lc rfl (by first | assumption | exact H.fr.cell (by assumption) (by simp)) sc9) ?_ | refine tk (i := 7) rfl (by kernel_rfl) rfl H (fun w' H => r_ld H rfl sc9 (by assumption)) ?_
  first | refine tk (i := 11) rfl (by kernel_rfl) rfl H (fun w' H => r_ld H rfl sc4 rfl) ?_ | refine tk (i := 11) rfl (by kernel_rfl) rfl H (fun w' H => r_lc rfl (by first | assumption | exact H.fr.cell (by assumption) (by simp)) sc4) ?_ | refine tk (i := 11) rfl (by kernel_rfl) rfl H (fun w' H => r_ld H rfl sc4 (by assumption)) ?_
  first | refine tk (i := 15) rfl (by kernel_rfl) rfl H (fun w' H => r_ld H rfl sc4 rfl) ?_ | refine tk (i := 15) rfl (by kernel_rfl) rfl H (fun w' H => r_lc rfl (by first | assumption | exact H.fr.cell (by assumption) (by simp)) sc4) ?_ | refine tk (i := 15) rfl (by kernel_rfl) rfl H (fun w' H => r_ld H rfl sc4 (by assumption)) ?_
  refine tkbu (out := ?o1) (i := 16) rfl (by kernel_rfl) rfl H ze28 bo28 ?f1 ?_
  case f1 =>
    refine FL.one (v := .int .i64 _) rfl pl28_1 rfl (by first | decide | simp) ?_
    refine FL.one (v := .string _) rfl pl28_2 rfl (by first | decide | simp) ?_
    refine FL.one (v := .bool _) rfl pl28_3 rfl (by first | decide | simp) ?_
    refine FL.one (v := .bool _) rfl pl28_4 rfl (by first | decide | simp) ?_
    exact FL.nil
  refine fk (i := 17) (by kernel_rfl) rfl rfl rfl ?_
  refine al H ze28 rfl ?_
  clear H; intro b2 w2 hb2 H _
  refine nl ?_
  refine then_n ?_
  refine ⟨H.drop, ?_⟩
  refine fb (i := 18) (by kernel_rfl) rfl rfl rfl ?_
  refine sa H rfl rfl ag28_5 rfl rfl (by decide) (by omega) rfl ?_
  clear H; intro w3 H _
  refine nl ?_
  refine then_n ?_
  refine dn (by kernel_rfl) ?_
  refine then_n ?_
  refine sq ?_
  refine sq ?_
  refine rg ?_
  refine mv (v := .pointer _) rfl rfl ?_
  first | refine nc rfl rfl ?_ | refine nci rfl rfl ?_
  refine fa rfl fo75_0 rfl ?_
  first | refine ld H rfl sc73 rfl rfl ?_ | refine lc rfl (by first | assumption | exact H.fr.cell (by assumption) (by simp)) sc73 rfl ?_ | refine ld H rfl sc73 (by assumption) rfl ?_
  refine lnS rfl Try.underlying73 rfl ?_
  refine mv (v := .int .i64 _) rfl rfl ?_
  refine nl ?_
  refine then_n ?_
  refine bk ?_
  refine lpM (α := Nat × Option Addr × Nat) [5, 28, 29, 30, 31, 32, 33, 34, 35, 36, 37, 38, 39, 40, 41, 42, 43, 44, 45, 46, 47, 48, 49, 50, 51, 52, 53, 54, 55, 56, 57, 58, 59, 60, 61, 62, 63, 64, 65, 66, 67, 68, 69, 70] (fun (i, D2, cap2) => [(28, .int .i64 (i : Int))]) (fun (i, D2, cap2) w' => i ≤ l.length ∧ OR 46 8 w [] w' [⟨b2, .cells (gtCells D2 i cap2 512 g pr rb).toArray 28 (0, 0), true⟩, ⟨b1, .cells (gtCells none 0 0 0 [] false false).toArray 28 (0, 0), true⟩] D2 i cap2 ((qs.take i).flatMap GP.cells)) (fun (i, D2, cap2) => l.length - i) (0, none, 0) ?_ (fC (by first | rfl | exact congrArg (Value.int _) (by first | omega | assumption | (symm; assumption) | (simp; done) | (simp; omega)) | exact congrArg (fun n => Value.slice _ n _) (by first | omega | (simp; done) | (simp; omega))) (fN _)) ?_   -- loop 1
  · exact ⟨by omega, OR.nil H⟩
  · rintro ⟨i, D2, cap2⟩ ρx w4 ⟨hi, O⟩
    have H := O.sh
    refine sq ?_
    refine rg ?_
    refine lss rfl rfl rfl ?_
    refine nl ?_
    refine then_n ?_
    refine sq ?_
    first | refine cd rfl (fun hc1 => ?_) (fun hc1 => ?_) | refine cn rfl (fun hc1 => ?_) (fun hc1 => ?_)   -- test 1
    · obtain ⟨x, hx⟩ : ∃ x, l[i]? = some x := ⟨_, List.getElem?_eq_getElem (by omega)⟩
      obtain ⟨q, hq⟩ : ∃ q, qs[i]? = some q := ⟨_, List.getElem?_eq_getElem (by omega)⟩
      obtain ⟨ad, rfl, hx1, hx2⟩ := hr i x hx
      have hxq : x.2 = pc q := by
        have e := congrArg (fun m => m[i]?) hl
        simpa [hx, hq] using e
      rw [hxq] at hx2
      have k0 : w.cell? ⟨x.1, 0, none⟩ = some (.int .i64 q.ix) := cell_at hx2
      have k1 : w.cell? ⟨x.1, 1, none⟩ = some (.int .u64 q.st) := cell_at hx2
      have k2 : w.cell? ⟨x.1, 2, none⟩ = some (.int .u64 q.en) := cell_at hx2
      have k3 : w.cell? ⟨x.1, 3, none⟩ = some (.int .u64 q.sz) := cell_at hx2
      have k4 : w.cell? ⟨x.1, 4, none⟩ = some (.string (str q.ty)) := cell_at hx2
      have k5 : w.cell? ⟨x.1, 5, none⟩ = some (.string (str q.nm)) := cell_at hx2
      have k6 : w.cell? ⟨x.1, 6, none⟩ = some (.string (str q.gu)) := cell_at hx2
      have k7 : w.cell? ⟨x.1, 7, none⟩ = some (.int .u64 q.att) := cell_at hx2
      refine sk ?_
      refine then_n ?_
      refine sq ?_
      refine bk ?_
      refine sq ?_
      refine rg ?_
      first | refine ia rfl rfl Try.underlying73 sz93_1 (by omega) rfl ?_ | refine iA rfl rfl Try.underlying73 sz93_1 (by omega) rfl ?_
      first | refine ld H rfl sc93 rfl rfl ?_ | refine lc rfl (by first | assumption | exact H.fr.cell (by assumption) (by simp)) sc93 rfl ?_ | refine ld H rfl sc93 (by assumption) rfl ?_
      refine asg (v := .pointer _) rfl rfl ?_
      refine nl ?_
      refine then_n ?_
      refine dr (by kernel_rfl) ?_   -- region 5
      have H := H.drew
      replace O := O.drew
      refine hold (fun w' => SH w [] w' [⟨b2, .cells (gtCells D2 i cap2 512 g pr rb).toArray 28 (0, 0), true⟩, ⟨b1, .cells (gtCells none 0 0 0 [] false false).toArray 28 (0, 0), true⟩]) [38] ?_
      refine tk (i := 0) rfl (by kernel_rfl) rfl (H.sub (by repeat (first | exact List.Sublist.refl _ | exact List.nil_sublist _ | apply List.Sublist.cons_cons | apply List.Sublist.cons))) (fun w' H => r_fa rfl fo28_0) ?_
      first | refine tk (i := 1) rfl (by kernel_rfl) rfl (H.sub (by repeat (first | exact List.Sublist.refl _ | exact List.nil_sublist _ | apply List.Sublist.cons_cons | apply List.Sublist.cons))) (fun w' H => r_ld H rfl sc26 rfl) ?_ | refine tk (i := 1) rfl (by kernel_rfl) rfl (H.sub (by repeat (first | exact List.Sublist.refl _ | exact List.nil_sublist _ | apply List.Sublist.cons_cons | apply List.Sublist.cons))) (fun w' H => r_lc rfl (by first | assumption | exact H.fr.cell (by assumption) (by simp)) sc26) ?_ | refine tk (i := 1) rfl (by kernel_rfl) rfl (H.sub (by repeat (first | exact List.Sublist.refl _ | exact List.nil_sublist _ | apply List.Sublist.cons_cons | apply List.Sublist.cons))) (fun w' H => r_ld H rfl sc26 (by assumption)) ?_
      refine tk (i := 2) rfl (by kernel_rfl) rfl (H.sub (by repeat (first | exact List.Sublist.refl _ | exact List.nil_sublist _ | apply List.Sublist.cons_cons | apply List.Sublist.cons))) (fun w' H => r_mv (v := .pointer _) rfl) ?_
      first | refine tk (i := 3) rfl (by kernel_rfl) rfl (H.sub (by repeat (first | exact List.Sublist.refl _ | exact List.nil_sublist _ | apply List.Sublist.cons_cons | apply List.Sublist.cons))) (fun w' H => r_nc rfl) ?_ | refine tk (i := 3) rfl (by kernel_rfl) rfl (H.sub (by repeat (first | exact List.Sublist.refl _ | exact List.nil_sublist _ | apply List.Sublist.cons_cons | apply List.Sublist.cons))) (fun w' H => r_nci rfl) ?_
      refine tk (i := 4) rfl (by kernel_rfl) rfl (H.sub (by repeat (first | exact List.Sublist.refl _ | exact List.nil_sublist _ | apply List.Sublist.cons_cons | apply List.Sublist.cons))) (fun w' H => r_fa rfl fo96_0) ?_
      first | refine tk (i := 5) rfl (by kernel_rfl) rfl (H.sub (by repeat (first | exact List.Sublist.refl _ | exact List.nil_sublist _ | apply List.Sublist.cons_cons | apply List.Sublist.cons))) (fun w' H => r_ld H rfl sc3 rfl) ?_ | refine tk (i := 5) rfl (by kernel_rfl) rfl (H.sub (by repeat (first | exact List.Sublist.refl _ | exact List.nil_sublist _ | apply List.Sublist.cons_cons | apply List.Sublist.cons))) (fun w' H => r_lc rfl (by first | assumption | exact H.fr.cell (by assumption) (by simp)) sc3) ?_ | refine tk (i := 5) rfl (by kernel_rfl) rfl (H.sub (by repeat (first | exact List.Sublist.refl _ | exact List.nil_sublist _ | apply List.Sublist.cons_cons | apply List.Sublist.cons))) (fun w' H => r_ld H rfl sc3 (by assumption)) ?_
      refine tk (i := 6) rfl (by kernel_rfl) rfl (H.sub (by repeat (first | exact List.Sublist.refl _ | exact List.nil_sublist _ | apply List.Sublist.cons_cons | apply List.Sublist.cons))) (fun w' H => r_mv (v := .pointer _) rfl) ?_
      first | refine tk (i := 7) rfl (by kernel_rfl) rfl (H.sub (by repeat (first | exact List.Sublist.refl _ | exact List.nil_sublist _ | apply List.Sublist.cons_cons | apply List.Sublist.cons))) (fun w' H => r_nc rfl) ?_ | refine tk (i := 7) rfl (by kernel_rfl) rfl (H.sub (by repeat (first | exact List.Sublist.refl _ | exact List.nil_sublist _ | apply List.Sublist.cons_cons | apply List.Sublist.cons))) (fun w' H => r_nci rfl) ?_
      refine tk (i := 8) rfl (by kernel_rfl) rfl (H.sub (by repeat (first | exact List.Sublist.refl _ | exact List.nil_sublist _ | apply List.Sublist.cons_cons | apply List.Sublist.cons))) (fun w' H => r_fa rfl fo96_1) ?_
      first | refine tk (i := 9) rfl (by kernel_rfl) rfl (H.sub (by repeat (first | exact List.Sublist.refl _ | exact List.nil_sublist _ | apply List.Sublist.cons_cons | apply List.Sublist.cons))) (fun w' H => r_ld H rfl sc30 rfl) ?_ | refine tk (i := 9) rfl (by kernel_rfl) rfl (H.sub (by repeat (first | exact List.Sublist.refl _ | exact List.nil_sublist _ | apply List.Sublist.cons_cons | apply List.Sublist.cons))) (fun w' H => r_lc rfl (by first | assumption | exact H.fr.cell (by assumption) (by simp)) sc30) ?_ | refine tk (i := 9) rfl (by kernel_rfl) rfl (H.sub (by repeat (first | exact List.Sublist.refl _ | exact List.nil_sublist _ | apply List.Sublist.cons_cons | apply List.Sublist.cons))) (fun w' H => r_ld H rfl sc30 (by assumption)) ?_
      refine tk (i := 10) rfl (by kernel_rfl) rfl (H.sub (by repeat (first | exact List.Sublist.refl _ | exact List.nil_sublist _ | apply List.Sublist.cons_cons | apply List.Sublist.cons))) (fun w' H => r_mv (v := .pointer _) rfl) ?_
      first | refine tk (i := 11) rfl (by kernel_rfl) rfl (H.sub (by repeat (first | exact List.Sublist.refl _ | exact List.nil_sublist _ | apply List.Sublist.cons_cons | apply List.Sublist.cons))) (fun w' H => r_nc rfl) ?_ | refine tk (i := 11) rfl (by kernel_rfl) rfl (H.sub (by repeat (first | exact List.Sublist.refl _ | exact List.nil_sublist _ | apply List.Sublist.cons_cons | apply List.Sublist.cons))) (fun w' H => r_nci rfl) ?_
      refine tk (i := 12) rfl (by kernel_rfl) rfl (H.sub (by repeat (first | exact List.Sublist.refl _ | exact List.nil_sublist _ | apply List.Sublist.cons_cons | apply List.Sublist.cons))) (fun w' H => r_fa rfl fo96_2) ?_
      first | refine tk (i := 13) rfl (by kernel_rfl) rfl (H.sub (by repeat (first | exact List.Sublist.refl _ | exact List.nil_sublist _ | apply List.Sublist.cons_cons | apply List.Sublist.cons))) (fun w' H => r_ld H rfl sc30 rfl) ?_ | refine tk (i := 13) rfl (by kernel_rfl) rfl (H.sub (by repeat (first | exact List.Sublist.refl _ | exact List.nil_sublist _ | apply List.Sublist.cons_cons | apply List.Sublist.cons))) (fun w' H => r_lc rfl (by first | assumption | exact H.fr.cell (by assumption) (by simp)) sc30) ?_ | refine tk (i := 13) rfl (by kernel_rfl) rfl (H.sub (by repeat (first | exact List.Sublist.refl _ | exact List.nil_sublist _ | apply List.Sublist.cons_cons | apply List.Sublist.cons))) (fun w' H => r_ld H rfl sc30 (by assumption)) ?_
      refine tk (i := 14) rfl (by kernel_rfl) rfl (H.sub (by repeat (first | exact List.Sublist.refl _ | exact List.nil_sublist _ | apply List.Sublist.cons_cons | apply List.Sublist.cons))) (fun w' H => r_mv (v := .pointer _) rfl) ?_
      first | refine tk (i := 15) rfl (by kernel_rfl) rfl (H.sub (by repeat (first | exact List.Sublist.refl _ | exact List.nil_sublist _ | apply List.Sublist.cons_cons | apply List.Sublist.cons))) (fun w' H => r_nc rfl) ?_ | refine tk (i := 15) rfl (by kernel_rfl) rfl (H.sub (by repeat (first | exact List.Sublist.refl _ | exact List.nil_sublist _ | apply List.Sublist.cons_cons | apply List.Sublist.cons))) (fun w' H => r_nci rfl) ?_
      refine tk (i := 16) rfl (by kernel_rfl) rfl (H.sub (by repeat (first | exact List.Sublist.refl _ | exact List.nil_sublist _ | apply List.Sublist.cons_cons | apply List.Sublist.cons))) (fun w' H => r_fa rfl fo96_3) ?_
      first | refine tk (i := 17) rfl (by kernel_rfl) rfl (H.sub (by repeat (first | exact List.Sublist.refl _ | exact List.nil_sublist _ | apply List.Sublist.cons_cons | apply List.Sublist.cons))) (fun w' H => r_ld H rfl sc30 rfl) ?_ | refine tk (i := 17) rfl (by kernel_rfl) rfl (H.sub (by repeat (first | exact List.Sublist.refl _ | exact List.nil_sublist _ | apply List.Sublist.cons_cons | apply List.Sublist.cons))) (fun w' H => r_lc rfl (by first | assumption | exact H.fr.cell (by assumption) (by simp)) sc30) ?_ | refine tk (i := 17) rfl (by kernel_rfl) rfl (H.sub (by repeat (first | exact List.Sublist.refl _ | exact List.nil_sublist _ | apply List.Sublist.cons_cons | apply List.Sublist.cons))) (fun w' H => r_ld H rfl sc30 (by assumption)) ?_
      refine tk (i := 18) rfl (by kernel_rfl) rfl (H.sub (by repeat (first | exact List.Sublist.refl _ | exact List.nil_sublist _ | apply List.Sublist.cons_cons | apply List.Sublist.cons))) (fun w' H => r_mv (v := .pointer _) rfl) ?_
      first | refine tk (i := 19) rfl (by kernel_rfl) rfl (H.sub (by repeat (first | exact List.Sublist.refl _ | exact List.nil_sublist _ | apply List.Sublist.cons_cons | apply List.Sublist.cons))) (fun w' H => r_nc rfl) ?_ | refine tk (i := 19) rfl (by kernel_rfl) rfl (H.sub (by repeat (first | exact List.Sublist.refl _ | exact List.nil_sublist _ | apply List.Sublist.cons_cons | apply List.Sublist.cons))) (fun w' H => r_nci rfl) ?_
      refine tk (i := 20) rfl (by kernel_rfl) rfl (H.sub (by repeat (first | exact List.Sublist.refl _ | exact List.nil_sublist _ | apply List.Sublist.cons_cons | apply List.Sublist.cons))) (fun w' H => r_fa rfl fo96_4) ?_
      first | refine tk (i := 21) rfl (by kernel_rfl) rfl (H.sub (by repeat (first | exact List.Sublist.refl _ | exact List.nil_sublist _ | apply List.Sublist.cons_cons | apply List.Sublist.cons))) (fun w' H => r_ld H rfl sc94 rfl) ?_ | refine tk (i := 21) rfl (by kernel_rfl) rfl (H.sub (by repeat (first | exact List.Sublist.refl _ | exact List.nil_sublist _ | apply List.Sublist.cons_cons | apply List.Sublist.cons))) (fun w' H => r_lc rfl (by first | assumption | exact H.fr.cell (by assumption) (by simp)) sc94) ?_ | refine tk (i := 21) rfl (by kernel_rfl) rfl (H.sub (by repeat (first | exact List.Sublist.refl _ | exact List.nil_sublist _ | apply List.Sublist.cons_cons | apply List.Sublist.cons))) (fun w' H => r_ld H rfl sc94 (by assumption)) ?_
      refine tk (i := 22) rfl (by kernel_rfl) rfl (H.sub (by repeat (first | exact List.Sublist.refl _ | exact List.nil_sublist _ | apply List.Sublist.cons_cons | apply List.Sublist.cons))) (fun w' H => r_mv (v := .pointer _) rfl) ?_
      first | refine tk (i := 23) rfl (by kernel_rfl) rfl (H.sub (by repeat (first | exact List.Sublist.refl _ | exact List.nil_sublist _ | apply List.Sublist.cons_cons | apply List.Sublist.cons))) (fun w' H => r_nc rfl) ?_ | refine tk (i := 23) rfl (by kernel_rfl) rfl (H.sub (by repeat (first | exact List.Sublist.refl _ | exact List.nil_sublist _ | apply List.Sublist.cons_cons | apply List.Sublist.cons))) (fun w' H => r_nci rfl) ?_
      refine tk (i := 24) rfl (by kernel_rfl) rfl (H.sub (by repeat (first | exact List.Sublist.refl _ | exact List.nil_sublist _ | apply List.Sublist.cons_cons | apply List.Sublist.cons))) (fun w' H => r_fa rfl fo96_5) ?_
      first | refine tk (i := 25) rfl (by kernel_rfl) rfl (H.sub (by repeat (first | exact List.Sublist.refl _ | exact List.nil_sublist _ | apply List.Sublist.cons_cons | apply List.Sublist.cons))) (fun w' H => r_ld H rfl sc9 rfl) ?_ | refine tk (i := 25) rfl (by kernel_rfl) rfl (H.sub (by repeat (first | exact List.Sublist.refl _ | exact List.nil_sublist _ | apply List.Sublist.cons_cons | apply List.Sublist.cons))) (fun w' H => r_lc rfl (by first | assumption | exact H.fr.cell (by assumption) (by simp)) sc9) ?_ | refine tk (i := 25) rfl (by kernel_rfl) rfl (H.sub (by repeat (first | exact List.Sublist.refl _ | exact List.nil_sublist _ | apply List.Sublist.cons_cons | apply List.Sublist.cons))) (fun w' H => r_ld H rfl sc9 (by assumption)) ?_
      refine tk (i := 26) rfl (by kernel_rfl) rfl (H.sub (by repeat (first | exact List.Sublist.refl _ | exact List.nil_sublist _ | apply List.Sublist.cons_cons | apply List.Sublist.cons))) (fun w' H => r_mv (v := .pointer _) rfl) ?_
      first | refine tk (i := 27) rfl (by kernel_rfl) rfl (H.sub (by repeat (first | exact List.Sublist.refl _ | exact List.nil_sublist _ | apply List.Sublist.cons_cons | apply List.Sublist.cons))) (fun w' H => r_nc rfl) ?_ | refine tk (i := 27) rfl (by kernel_rfl) rfl (H.sub (by repeat (first | exact List.Sublist.refl _ | exact List.nil_sublist _ | apply List.Sublist.cons_cons | apply List.Sublist.cons))) (fun w' H => r_nci rfl) ?_
      refine tk (i := 28) rfl (by kernel_rfl) rfl (H.sub (by repeat (first | exact List.Sublist.refl _ | exact List.nil_sublist _ | apply List.Sublist.cons_cons | apply List.Sublist.cons))) (fun w' H => r_fa rfl fo96_6) ?_
      first | refine tk (i := 29) rfl (by kernel_rfl) rfl (H.sub (by repeat (first | exact List.Sublist.refl _ | exact List.nil_sublist _ | apply List.Sublist.cons_cons | apply List.Sublist.cons))) (fun w' H => r_ld H rfl sc9 rfl) ?_ | refine tk (i := 29) rfl (by kernel_rfl) rfl (H.sub (by repeat (first | exact List.Sublist.refl _ | exact List.nil_sublist _ | apply List.Sublist.cons_cons | apply List.Sublist.cons))) (fun w' H => r_lc rfl (by first | assumption | exact H.fr.cell (by assumption) (by simp)) sc9) ?_ | refine tk (i := 29) rfl (by kernel_rfl) rfl (H.sub (by repeat (first | exact List.Sublist.refl _ | exact List.nil_sublist _ | apply List.Sublist.cons_cons | apply List.Sublist.cons))) (fun w' H => r_ld H rfl sc9 (by assumption)) ?_
      refine tk (i := 30) rfl (by kernel_rfl) rfl (H.sub (by repeat (first | exact List.Sublist.refl _ | exact List.nil_sublist _ | apply List.Sublist.cons_cons | apply List.Sublist.cons))) (fun w' H => r_mv (v := .pointer _) rfl) ?_
      first | refine tk (i := 31) rfl (by kernel_rfl) rfl (H.sub (by repeat (first | exact List.Sublist.refl _ | exact List.nil_sublist _ | apply List.Sublist.cons_cons | apply List.Sublist.cons))) (fun w' H => r_nc rfl) ?_ | refine tk (i := 31) rfl (by kernel_rfl) rfl (H.sub (by repeat (first | exact List.Sublist.refl _ | exact List.nil_sublist _ | apply List.Sublist.cons_cons | apply List.Sublist.cons))) (fun w' H => r_nci rfl) ?_
      refine tk (i := 32) rfl (by kernel_rfl) rfl (H.sub (by repeat (first | exact List.Sublist.refl _ | exact List.nil_sublist _ | apply List.Sublist.cons_cons | apply List.Sublist.cons))) (fun w' H => r_fa rfl fo96_7) ?_
      first | refine tk (i := 33) rfl (by kernel_rfl) rfl (H.sub (by repeat (first | exact List.Sublist.refl _ | exact List.nil_sublist _ | apply List.Sublist.cons_cons | apply List.Sublist.cons))) (fun w' H => r_ld H rfl sc30 rfl) ?_ | refine tk (i := 33) rfl (by kernel_rfl) rfl (H.sub (by repeat (first | exact List.Sublist.refl _ | exact List.nil_sublist _ | apply List.Sublist.cons_cons | apply List.Sublist.cons))) (fun w' H => r_lc rfl (by first | assumption | exact H.fr.cell (by assumption) (by simp)) sc30) ?_ | refine tk (i := 33) rfl (by kernel_rfl) rfl (H.sub (by repeat (first | exact List.Sublist.refl _ | exact List.nil_sublist _ | apply List.Sublist.cons_cons | apply List.Sublist.cons))) (fun w' H => r_ld H rfl sc30 (by assumption)) ?_
      refine tkbu (out := ?o2) (i := 34) rfl (by kernel_rfl) rfl (H.sub (by repeat (first | exact List.Sublist.refl _ | exact List.nil_sublist _ | apply List.Sublist.cons_cons | apply List.Sublist.cons))) ze46 bo46 ?f2 ?_
      case f2 =>
        refine FL.one (v := .int .i64 _) rfl pl46_0 rfl (by first | decide | simp) ?_
        refine FL.one (v := .int .u64 _) rfl pl46_1 rfl (by first | decide | simp) ?_
        refine FL.one (v := .int .u64 _) rfl pl46_2 rfl (by first | decide | simp) ?_
        refine FL.one (v := .int .u64 _) rfl pl46_3 rfl (by first | decide | simp) ?_
        refine FL.one (v := .string _) rfl pl46_4 rfl (by first | decide | simp) ?_
        refine FL.one (v := .string _) rfl pl46_5 rfl (by first | decide | simp) ?_
        refine FL.one (v := .string _) rfl pl46_6 rfl (by first | decide | simp) ?_
        refine FL.one (v := .int .u64 _) rfl pl46_7 rfl (by first | decide | simp) ?_
        exact FL.nil
      refine fk (i := 35) (by kernel_rfl) rfl rfl rfl ?_
      refine bsl (sz := 8) (out := ?o3) H Try.underlying26 ze46 sz46_8 (by decide) ?f3 rfl ?_
      case f3 =>
        refine FS.agg (vs := _) rfl rfl (by first | decide | simp) ?_
        exact FS.nil
      intro b3 w5 hb3 H1 F; replace O := O.new F hb3 H1.look; clear H H1 F; have H := O.sh
      refine nl ?_
      refine then_n ?_
      refine ⟨H.sub (by repeat (first | exact List.Sublist.refl _ | exact List.nil_sublist _ | apply List.Sublist.cons_cons | apply List.Sublist.cons)), ?_⟩
      refine fk (i := 36) (by kernel_rfl) rfl rfl rfl ?_
      refine apO (zs := [.int .i64 0, .int .u64 0, .int .u64 0, .int .u64 0, .string ⟨#[]⟩, .string ⟨#[]⟩, .string ⟨#[]⟩, .int .u64 0]) q.cells O rfl rfl Try.underlying26 ri46 (by first | rfl | simp) (cells_look H.look) (List.all_eq_true.1 q.cells_one) (by simp) (by omega) (by unfold maxLen; omega) rfl ?_
      clear O H; intro D9 cp9 w6 O
      replace O := O.drop; have H := O.sh
      refine nl ?_
      refine then_n ?_
      refine ⟨H.sub (by repeat (first | exact List.Sublist.refl _ | exact List.nil_sublist _ | apply List.Sublist.cons_cons | apply List.Sublist.cons)), ?_⟩
      refine tk (i := 37) rfl (by kernel_rfl) rfl (H.sub (by repeat (first | exact List.Sublist.refl _ | exact List.nil_sublist _ | apply List.Sublist.cons_cons | apply List.Sublist.cons))) (fun w' H => r_fa rfl fo28_0) ?_
      refine fb (i := 38) (by kernel_rfl) rfl rfl rfl ?_
      refine st (v := .slice _ _ _) H rfl rfl sc26 rfl (by show 0 + 0 < 5; decide) (by omega) ?_
      intro w95 H1 F; replace O := O.put F H1.look; clear H H1 F; have H := O.sh
      refine nl ?_
      refine then_n ?_
      refine dn (by kernel_rfl) ?_
      refine in_n ?_
      refine then_n ?_
      refine rg ?_
      refine add rfl rfl (by first | exact w_i64 (by omega) | exact w_i64 (rng_i64 _) | rfl) rfl ?_
      refine mv (v := .int .i64 _) rfl rfl ?_
      refine nl ?_
      refine loop_n ?_
      exact ⟨(i + 1, D9, cp9), (by (try dsimp only); omega), ⟨by omega, by rw [take_succ_get hq, List.flatMap_append]; exact O⟩, (fC (by first | rfl | exact congrArg (Value.int _) (by first | omega | assumption | (symm; assumption) | (simp; done) | (simp; omega)) | exact congrArg (fun n => Value.slice _ n _) (by first | omega | (simp; done) | (simp; omega))) (fN _)), (by repeat (first | exact Agree.setL rfl Agree.mask | exact Agree.self _ _ | refine Agree.upd rfl ?_ | refine Agree.setL rfl ?_ | refine Agree.mask2 rfl ?_))⟩
    · refine ex ?_
      refine then_e ?_
      refine loop_e ?_
      refine in_hit rfl ?_
      refine then_n ?_
      refine sq ?_
      refine rg ?_
      refine la (vs := gtCells D2 i cap2 512 g pr rb) H rfl ag28_5 rfl rfl rfl ?_
      refine sa (cs' := gtCells D2 i cap2 512 g pr rb) H rfl rfl ag28_5 rfl rfl (by show 0 + 5 ≤ 5; decide) (by omega) rfl ?_
      intro w96 H96 F96; replace O := O.put F96 H96.look; clear H H96 F96; have H := O.sh
      refine nl ?_
      refine then_n ?_
      refine rt ?_
      refine finR_r ?_
      obtain rfl : i = l.length := by omega
      rw [List.take_of_length_le (by omega)] at O
      exact ⟨[_], ⟨finC rfl (H.look (b := b1)) ag28_5, trivial⟩, _, _, rfl, O.sub (List.nil_sublist _)⟩

end Go.Proofs.Ythcaejaaalkglaa.X
