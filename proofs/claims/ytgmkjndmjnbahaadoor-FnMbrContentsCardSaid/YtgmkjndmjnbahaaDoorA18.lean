/- Walks of functions, printed by a program of this claim. -/
import Derived.Test.YtgmkjndmjnbahaaDoorA17
namespace Go.Proofs.YtgmkjndmjnbahaaDoor.X
set_option linter.unusedVariables false
set_option linter.unusedSimpArgs false
open Go Go.RowKit

namespace A18
theorem ag28_11 : aggB Tryd.prog 28 11 = true := by kernel_rfl
theorem ag29_44 : aggB Tryd.prog 29 44 = true := by kernel_rfl
theorem bo28 : buildOK Tryd.prog 28 = true := by kernel_rfl
theorem ca4 : callable Tryd.prog 4 = true := by kernel_rfl
theorem ca5 : callable Tryd.prog 5 = true := by kernel_rfl
theorem ca6 : callable Tryd.prog 6 = true := by kernel_rfl
theorem ca7 : callable Tryd.prog 7 = true := by kernel_rfl
theorem ca8 : callable Tryd.prog 8 = true := by kernel_rfl
theorem pl28_2 : placeOf Tryd.prog 28 2 = some (2, 1) := by kernel_rfl
theorem pl28_3 : placeOf Tryd.prog 28 3 = some (3, 1) := by kernel_rfl
theorem pl28_4 : placeOf Tryd.prog 28 4 = some (4, 1) := by kernel_rfl
theorem ri5 : rowInfo Tryd.prog 5 = some ([.int .u8 0], 1) := by kernel_rfl
theorem sz28_11 : sizeB Tryd.prog 28 11 = true := by kernel_rfl
theorem sz5_1 : sizeB Tryd.prog 5 1 = true := by kernel_rfl
theorem ze28 : zeroL Tryd.prog 28 = some [.int .i64 0, .bool false, .int .u8 0, .int .u32 0, .int .u32 0, .int .u8 0, .int .u8 0, .int .u8 0, .int .u8 0, .int .u8 0, .int .u8 0] := by kernel_rfl
theorem ze29 : zeroL Tryd.prog 29 = some [.int .i64 0, .bool false, .int .u8 0, .int .u32 0, .int .u32 0, .int .u8 0, .int .u8 0, .int .u8 0, .int .u8 0, .int .u8 0, .int .u8 0, .int .i64 0, .bool false, .int .u8 0, .int .u32 0, .int .u32 0, .int .u8 0, .int .u8 0, .int .u8 0, .int .u8 0, .int .u8 0, .int .u8 0, .int .i64 0, .bool false, .int .u8 0, .int .u32 0, .int .u32 0, .int .u8 0, .int .u8 0, .int .u8 0, .int .u8 0, .int .u8 0, .int .u8 0, .int .i64 0, .bool false, .int .u8 0, .int .u32 0, .int .u32 0, .int .u8 0, .int .u8 0, .int .u8 0, .int .u8 0, .int .u8 0, .int .u8 0] := by kernel_rfl
theorem ze5 : zeroL Tryd.prog 5 = some [.int .u8 0] := by kernel_rfl

end A18
open A18

theorem or_u8 (a b : Int) : 0 ≤ bits .or .u8 a b ∧ bits .or .u8 a b ≤ 255 := by
  have e : bits .or .u8 a b = IntKind.u8.wrap ((BitVec.ofInt IntKind.u8.bits a ||| BitVec.ofInt IntKind.u8.bits b).toNat : Int) := rfl
  rw [e, m_u8]; omega
theorem pq_ok {a n : Nat} (ha : a ≤ 1000) (hn : n ≤ 1000) : MP.ok ⟨0, false, 131, (a : Int), (n : Int), 0, 0, 0, 0, 0, 0⟩ := by
  constructor <;> first | decide | (simp only; omega)
theorem psx {a n k : Nat} (hk : k < 4) (ha : a ≤ 1000) (hn : n ≤ 1000) : ((List.replicate 4 MP.zero).set k (⟨0, false, 131, (a : Int), (n : Int), 0, 0, 0, 0, 0, 0⟩ : MP)).length = 4 ∧ (∀ p ∈ ((List.replicate 4 MP.zero).set k (⟨0, false, 131, (a : Int), (n : Int), 0, 0, 0, 0, 0, 0⟩ : MP)), p.ok) ∧ ((List.replicate 4 MP.zero).set k (⟨0, false, 131, (a : Int), (n : Int), 0, 0, 0, 0, 0, 0⟩ : MP))[k]? = some (⟨0, false, 131, (a : Int), (n : Int), 0, 0, 0, 0, 0, 0⟩ : MP) := by
  refine ⟨by simp, fun p hp => ?_, by rw [List.getElem?_set_self (by simpa using hk)]⟩
  rcases List.mem_or_eq_of_mem_set hp with h | rfl
  · rw [List.eq_of_mem_replicate h]; exact MP.zero_ok
  · exact pq_ok ha hn

set_option maxRecDepth 100000 in
set_option maxHeartbeats 4000000 in
theorem c_law (w : World) (u0 u1 u2 u3 u4 : Nat) (h0 : u0 ≤ 255 ∧ u1 ≤ 255 ∧ u2 ≤ 255) (h3 : (u3 : Int) ≤ 255) (h4 : u4 ≤ 65535) (ad : Addr) (hE : EofW 0 91 ad w) : Calls Tryd.prog 3 #[.int .u8 (u0 : Int), .int .u8 (u1 : Int), .int .u8 (u2 : Int), .int .u8 (u3 : Int), .int .u16 (u4 : Int)] w (Ret fun v w' => v = .bool true ∧ Fr [] w w') := by
  refine enter (fun ρ => ρ 10) Tryd.func3 rfl rfl rfl (res1 rfl) ?_
  have H := SH.nil w
  have hmx : maxLen = 9223372036854775807 := by decide
  obtain ⟨a, ha⟩ : ∃ a, a = 1 + u1 % 6 := ⟨_, rfl⟩
  obtain ⟨n, hn⟩ : ∃ n, n = 1 + u2 % 4 := ⟨_, rfl⟩
  obtain ⟨k, hke⟩ : ∃ k, k = u0 % 4 := ⟨_, rfl⟩
  have hk : k < 4 := by omega
  have har : 1 ≤ a ∧ a ≤ 6 := by omega
  have hnr : 1 ≤ n ∧ n ≤ 4 := by omega
  have hz44 : ((List.replicate 4 MP.zero).flatMap MP.cells).length = 44 := rfl
  obtain ⟨hp4, hpo, hpk⟩ := psx (a := a) (n := n) hk (by omega) (by omega)
  refine sq ?_
  refine rg ?_
  refine asg (v := .bool _) rfl rfl ?_
  refine nl ?_
  refine then_n ?_
  refine sq ?_
  refine rg ?_
  refine mv (v := .int .u8 _) rfl rfl ?_
  refine cvi rfl rfl Tryd.underlying3 (by first | exact w_i64 (by omega) | exact w_i64 (rng_i64 _) | rfl) rfl ?_
  refine rem rfl rfl (by omega) (by omega) rfl rfl ?_
  refine add (c := (a : Int)) rfl rfl (by rw [w_i64 (by omega)]; omega) rfl ?_
  refine mv (v := .int .u8 _) rfl rfl ?_
  refine cvi rfl rfl Tryd.underlying3 (by first | exact w_i64 (by omega) | exact w_i64 (rng_i64 _) | rfl) rfl ?_
  refine rem rfl rfl (by omega) (by omega) rfl rfl ?_
  refine add (c := (n : Int)) rfl rfl (by rw [w_i64 (by omega)]; omega) rfl ?_
  refine asg (v := .int .i64 _) rfl rfl ?_
  refine asg (v := .int .i64 _) rfl rfl ?_
  refine nl ?_
  refine then_n ?_
  refine sq ?_
  refine rg ?_
  refine mv (v := .int .u8 _) rfl rfl ?_
  refine cl ca4 (c_partDisk _ 12 512 _ (by omega) (by decide) (by decide)) rfl ?_
  rintro _ w1 ⟨b1, ds, rfl, hdl, hb1, ho1, F⟩
  replace H := H.new F hb1 ho1; clear F ho1
  refine asg (v := .slice _ _ _) rfl rfl ?_
  refine nl ?_
  refine then_n ?_
  refine sq ?_
  refine rg ?_
  refine al H ze29 rfl ?_
  clear H; intro b2 w2 hb2 H _
  refine nl ?_
  refine then_n ?_
  refine sq ?_
  refine rg ?_
  replace H := sh_cells0 (cs' := (List.replicate 4 MP.zero).flatMap MP.cells) H rfl
  refine mv (v := .int .u8 _) rfl rfl ?_
  refine cvi rfl rfl Tryd.underlying3 (by first | exact w_i64 (by omega) | exact w_i64 (rng_i64 _) | rfl) rfl ?_
  refine rem (c := (k : Int)) rfl rfl (by omega) (by omega) (by omega) rfl ?_
  refine asg (v := .int .i64 _) rfl rfl ?_
  refine nl ?_
  refine then_n ?_
  refine sq ?_
  refine rg ?_
  refine mv (v := .int .i64 _) rfl rfl ?_
  refine mv (v := .int .i64 _) rfl rfl ?_
  refine cvi rfl rfl Tryd.underlying25 (by first | exact w_u32 (by omega) | exact w_u32 (rng_u32 _) | exact m_u32 _) rfl ?_
  refine mv (v := .int .i64 _) rfl rfl ?_
  refine cvi rfl rfl Tryd.underlying25 (by first | exact w_u32 (by omega) | exact w_u32 (rng_u32 _) | exact m_u32 _) rfl ?_
  refine bu (out := ?o1) ze28 bo28 ?f1 rfl ?_
  case f1 =>
    refine FL.one (v := .int .u8 _) rfl pl28_2 rfl (by first | decide | simp) ?_
    refine FL.one (v := .int .u32 _) rfl pl28_3 rfl (by first | decide | simp) ?_
    refine FL.one (v := .int .u32 _) rfl pl28_4 rfl (by first | decide | simp) ?_
    exact FL.nil
  refine iyN (k * 11) rfl rfl Tryd.underlying29 sz28_11 (by omega) (by omega) rfl ?_
  refine sa (vs := (⟨0, false, 131, (a : Int), (n : Int), 0, 0, 0, 0, 0, 0⟩ : MP).cells) (cs' := (((List.replicate 4 MP.zero).set k (⟨0, false, 131, (a : Int), (n : Int), 0, 0, 0, 0, 0, 0⟩ : MP))).flatMap MP.cells) H rfl rfl ag28_11 rfl rfl (by rw [hz44]; omega) (by omega) (by exact flat_put0 (x := MP.zero) (by rw [List.getElem?_replicate]; simp [hk])) ?_
  clear H; intro w90 H _
  generalize hPS : ((List.replicate 4 MP.zero).set k (⟨0, false, 131, (a : Int), (n : Int), 0, 0, 0, 0, 0, 0⟩ : MP)) = ps at H hp4 hpo hpk
  have hfc : (ps.flatMap MP.cells).length = 44 := by rw [flat_len MP.cells_len, hp4]
  refine nl ?_
  refine then_n ?_
  refine sq ?_
  refine dr (by kernel_rfl) ?_   -- region 6
  have H := H.drew
  refine hold (fun _ => True) [] ?_
  refine tk (i := 0) rfl (by kernel_rfl) rfl trivial (fun _ _ => r_mv (v := .slice _ _ _) rfl) ?_
  refine tk (i := 1) rfl (by kernel_rfl) rfl trivial (fun _ _ => r_slh rfl rfl Tryd.underlying23 sz5_1 (by first | trivial | omega | (simp; omega))) ?_
  refine unfree ?_
  refine holdH H [3] ?_
  refine tk (i := 2) rfl (by kernel_rfl) rfl H (fun w' H => r_la (vs := ps.flatMap MP.cells) H rfl ag29_44 hfc (by rw [List.drop_zero, List.take_of_length_le (by omega)])) ?_
  refine fb (i := 3) (by kernel_rfl) rfl rfl rfl ?_
  refine cl ca5 (c_mbrEncode _ _ _ _ _ ds ps H.look (by omega) (by decide) (by decide) hp4 hpo) rfl ?_
  rintro _ w3 ⟨rfl, hlen, F, hnew⟩
  replace H := H.put F hnew; clear F hnew
  have hml : (mbrB ds ps).length = 12 * 512 := by omega
  have hfX := flags_take (mbr_flags (ds := ds) hp4 (by omega))
  have hsX := (sig_take _).trans (sigB_mbr (ds := ds) hp4 (by omega))
  have hmp : mpAt ((mbrB ds ps).take 512) (446 + 16 * k) (k + 1) = { (⟨0, false, 131, (a : Int), (n : Int), 0, 0, 0, 0, 0, 0⟩ : MP) with ix := ((k + 1 : Nat) : Int) } := by
    rw [mpAt_take (by omega), mpAt_mbr (k + 1) hpk hp4 (by omega) (hpo _ (List.mem_of_getElem? hpk))]
  have hst : (mpAt ((mbrB ds ps).take 512) (446 + 16 * k) (k + 1)).st = (a : Int) := by rw [hmp]
  have hsz : (mpAt ((mbrB ds ps).take 512) (446 + 16 * k) (k + 1)).sz = (n : Int) := by rw [hmp]
  clear hmp
  generalize hX : mbrB ds ps = X at H hml hfX hsX hst hsz
  refine nl ?_
  refine then_n ?_
  refine dn (by kernel_rfl) ?_
  refine then_n ?_
  refine sq ?_
  refine rg ?_
  refine mv (v := .slice _ _ _) rfl rfl ?_
  refine mv (v := .int .i64 _) rfl rfl ?_
  refine cl ca6 (c_contents _ _ (12 * 512) (12 * 512) X (RB.allm H hml) ⟨by omega, by omega⟩ hfX hsX k hk a n hst hsz (by omega) (by omega) ad (hE.keep H.fr)) rfl ?_
  rintro _ w4 ⟨rfl, F⟩
  replace H := H.keep F; clear F
  refine mv (v := .tuple _) rfl rfl ?_
  refine xt rfl rfl rfl ?_
  refine xt rfl rfl rfl ?_
  refine xt rfl rfl rfl ?_
  refine asg (v := .string _) rfl rfl ?_
  refine asg (v := .int .i64 _) rfl rfl ?_
  refine asg (v := .bool _) rfl rfl ?_
  refine nl ?_
  refine then_n ?_
  refine sq ?_
  refine sq ?_
  refine rg ?_
  refine mv (v := .bool _) rfl rfl ?_
  refine unot rfl rfl ?_
  refine mv (v := .bool _) rfl rfl ?_
  first | refine spL (t := 56) (b := false) rfl ?_ | refine spF (t := 56) rfl rfl ?_   -- guard 1
  refine gy rfl ?_
  refine mv (v := .int .i64 _) rfl rfl ?_
  refine gy rfl ?_
  refine mv (v := .int .i64 _) rfl rfl ?_
  refine gy rfl ?_
  refine mul rfl rfl (by first | exact w_i64 (by omega) | exact w_i64 (rng_i64 _) | rfl) rfl ?_
  refine gy rfl ?_
  refine neq rfl rfl rfl ?_
  refine pkF (v := .bool _) rfl rfl rfl ?_
  refine mv (v := .bool _) rfl rfl ?_
  first | refine spL (t := 62) (b := false) rfl ?_ | refine spF (t := 62) rfl (by omega) ?_   -- guard 2
  refine gy rfl ?_
  refine mv (v := .string _) rfl rfl ?_
  refine gy rfl ?_
  refine mv (v := .slice _ _ _) rfl rfl ?_
  refine gy rfl ?_
  refine mv (v := .int .i64 _) rfl rfl ?_
  refine gy rfl ?_
  refine mul rfl rfl (by first | exact w_i64 (by omega) | exact w_i64 (rng_i64 _) | rfl) rfl ?_
  refine gy rfl ?_
  refine mv (v := .int .i64 _) rfl rfl ?_
  refine gy rfl ?_
  refine mv (v := .int .i64 _) rfl rfl ?_
  refine gy rfl ?_
  refine add rfl rfl (by first | exact w_i64 (by omega) | exact w_i64 (rng_i64 _) | rfl) rfl ?_
  refine gy rfl ?_
  refine mul rfl rfl (by first | exact w_i64 (by omega) | exact w_i64 (rng_i64 _) | rfl) rfl ?_
  refine gy rfl ?_
  refine sllhN (a * 512) (512 * n) (12 * 512 - a * 512) rfl rfl rfl Tryd.underlying23 sz5_1 (by omega) (by omega) rfl ?_
  refine gy rfl ?_
  refine cvBS rfl (by exact RB.of H (by omega)) Tryd.underlying23 Tryd.underlying5 Tryd.underlying9 rfl ?_
  refine gy rfl ?_
  refine neqT rfl rfl rfl ?_
  refine pkF (v := .bool _) rfl rfl rfl ?_
  refine nl ?_
  refine then_n ?_
  first | refine cF rfl (fun h => h rfl) ?_ | refine cbF rfl (fun h => h rfl) ?_   -- test 1
  refine sk ?_
  refine then_n ?_
  refine sq ?_
  refine rg ?_
  refine mv (v := .int .i64 _) rfl rfl ?_
  refine mv (v := .int .u16 _) rfl rfl ?_
  refine cvi rfl rfl Tryd.underlying5 (by first | exact w_u8 (by omega) | exact w_u8 (rng_u8 _) | exact m_u8 _) rfl ?_
  refine bor rfl rfl rfl rfl ?_
  have hx2 := or_u8 ((u4 : Int) % 256) 1
  refine cl ca4 (c_partDisk _ n 512 _ hx2 (by omega) (by omega)) rfl ?_
  rintro _ w5 ⟨b3, fs, rfl, hfl, hb3, ho3, F⟩
  replace H := H.new F hb3 ho3; clear F ho3
  refine cvBS rfl (by first | exact RB.all H | exact RB.allm H (by first | assumption | (simp; done) | omega) | exact RB.of H (by omega) | assumption) Tryd.underlying23 Tryd.underlying5 Tryd.underlying9 rfl ?_
  refine asg (v := .string _) rfl rfl ?_
  refine nl ?_
  refine then_n ?_
  refine sq ?_
  refine rg ?_
  refine bsl (sz := 1) (out := ?o2) H Tryd.underlying23 ze5 sz5_1 (by decide) ?f2 rfl ?_
  case f2 =>
    exact FS.nil
  clear H; intro b4 w6 hb4 H F
  refine mv (v := .slice _ _ _) rfl rfl ?_
  refine apS (zs := [.int .u8 0]) (Bs X) (OR.made (n := 0) (cap := 0) (cur := []) H (by decide) (by decide) rfl) rfl rfl Tryd.underlying23 ri5 (by simp [hml]) (cells_look (H.look (b := b1))) Bs_one (by simp) (by omega) (by unfold maxLen; omega) rfl ?_
  clear H; intro a4 cp4 w7 O
  obtain ⟨b4, cur, rfl, hnc, hcm, hcl, htk, H⟩ := O.blk
  obtain ⟨junk, hj⟩ := take_split htk
  clear htk O; subst hj
  try simp only [List.nil_append] at H
  refine mv (v := .int .i64 _) rfl rfl ?_
  refine mv (v := .string _) rfl rfl ?_
  refine cl ca7 (c_fill _ _ (12 * 512) _ X (RB.bj H hml) ⟨by omega, by omega⟩ hfX hsX k hk a n hst hsz (by omega) (by omega) ad (hE.keep H.fr) fs (by omega)) rfl ?_
  rintro _ w8 ⟨b9, cp9, junk9, T9, fr9, rfl, hb9, ho9, F⟩
  replace H := H.new F hb9 ho9; clear F ho9
  have hYl : (pAt X (a * 512) fs).length = 12 * 512 := by rw [pAt_len (by omega), hml]
  have hcat : pAt X (a * 512) fs = (X.drop 0).take (a * 512) ++ fs ++ (X.drop ((a + n) * 512)).take (12 * 512 - (a + n) * 512) := by
    unfold pAt
    rw [List.drop_zero, show a * 512 + fs.length = (a + n) * 512 by omega, List.take_of_length_le (l := X.drop _) (by rw [List.length_drop]; omega)]
  refine mv (v := .tuple _) rfl rfl ?_
  refine xt rfl rfl rfl ?_
  refine xt rfl rfl rfl ?_
  refine xt rfl rfl rfl ?_
  refine asg (v := .slice _ _ _) rfl rfl ?_
  refine asg (v := .int .u64 _) rfl rfl ?_
  refine asg (v := .bool _) rfl rfl ?_
  refine nl ?_
  refine then_n ?_
  refine sq ?_
  refine dr (by kernel_rfl) ?_   -- region 12
  have H := H.drew
  refine holdH H [] ?_
  refine tk (i := 0) rfl (by kernel_rfl) rfl H (fun w' H => r_mv (v := .bool _) rfl) ?_
  refine tk (i := 1) rfl (by kernel_rfl) rfl H (fun w' H => r_mv (v := .bool _) rfl) ?_
  first | refine spaL (t := 92) (b := true) rfl ?_ | refine spaT (t := 92) rfl rfl ?_   -- guard 3
  refine tkg (i := 2) rfl (by kernel_rfl) rfl H rfl (fun w' H => r_mv (v := .int .u64 _) rfl) ?_
  refine tkg (i := 3) rfl (by kernel_rfl) rfl H rfl (fun w' H => r_mv (v := .int .i64 _) rfl) ?_
  refine tkg (i := 4) rfl (by kernel_rfl) rfl H rfl (fun w' H => r_mul rfl rfl (by first | exact w_i64 (by omega) | exact w_i64 (rng_i64 _) | rfl)) ?_
  refine tkg (i := 5) rfl (by kernel_rfl) rfl H rfl (fun w' H => r_cvi rfl rfl Tryd.underlying33 (by first | exact w_u64 (by omega) | exact w_u64 (rng_u64 _) | exact m_u64 _)) ?_
  refine tkg (i := 6) rfl (by kernel_rfl) rfl H rfl (fun w' H => r_eql rfl rfl) ?_
  refine tk (i := 7) rfl (by kernel_rfl) rfl H (fun w' H => r_pkT (v := .bool _) rfl rfl) ?_
  refine tk (i := 8) rfl (by kernel_rfl) rfl H (fun w' H => r_mv (v := .bool _) rfl) ?_
  first | refine spaL (t := 99) (b := true) rfl ?_ | refine spaT (t := 99) rfl (by omega) ?_   -- guard 4
  refine tkg (i := 9) rfl (by kernel_rfl) rfl H rfl (fun w' H => r_mv (v := .slice _ _ _) rfl) ?_
  refine tkg (i := 10) rfl (by kernel_rfl) rfl H rfl (fun w' H => r_cvBS rfl (by first | exact RB.bj H hYl | exact RB.of H (by omega)) Tryd.underlying23 Tryd.underlying5 Tryd.underlying9) ?_
  refine tkg (i := 11) rfl (by kernel_rfl) rfl H rfl (fun w' H => r_mv (v := .slice _ _ _) rfl) ?_
  refine tkg (i := 12) rfl (by kernel_rfl) rfl H rfl (fun w' H => r_mv (v := .int .i64 _) rfl) ?_
  refine tkg (i := 13) rfl (by kernel_rfl) rfl H rfl (fun w' H => r_mul rfl rfl (by first | exact w_i64 (by omega) | exact w_i64 (rng_i64 _) | rfl)) ?_
  refine tkg (i := 14) rfl (by kernel_rfl) rfl H rfl (fun w' H => r_slhN (a * 512) rfl rfl Tryd.underlying23 sz5_1 (by omega) (by omega)) ?_
  refine tkg (i := 15) rfl (by kernel_rfl) rfl H rfl (fun w' H => r_cvBS rfl (by first | exact RB.bj H hYl | exact RB.of H (by omega)) Tryd.underlying23 Tryd.underlying5 Tryd.underlying9) ?_
  refine tkg (i := 16) rfl (by kernel_rfl) rfl H rfl (fun w' H => r_mv (v := .string _) rfl) ?_
  refine tkg (i := 17) rfl (by kernel_rfl) rfl H rfl (fun w' H => r_catT rfl rfl (by first | omega | (simp; omega))) ?_
  refine tkg (i := 18) rfl (by kernel_rfl) rfl H rfl (fun w' H => r_mv (v := .slice _ _ _) rfl) ?_
  refine tkg (i := 19) rfl (by kernel_rfl) rfl H rfl (fun w' H => r_mv (v := .int .i64 _) rfl) ?_
  refine tkg (i := 20) rfl (by kernel_rfl) rfl H rfl (fun w' H => r_mv (v := .int .i64 _) rfl) ?_
  refine tkg (i := 21) rfl (by kernel_rfl) rfl H rfl (fun w' H => r_add rfl rfl (by first | exact w_i64 (by omega) | exact w_i64 (rng_i64 _) | rfl)) ?_
  refine tkg (i := 22) rfl (by kernel_rfl) rfl H rfl (fun w' H => r_mul rfl rfl (by first | exact w_i64 (by omega) | exact w_i64 (rng_i64 _) | rfl)) ?_
  refine tkg (i := 23) rfl (by kernel_rfl) rfl H rfl (fun w' H => r_sllN ((a + n) * 512) (12 * 512 - (a + n) * 512) (12 * 512 - (a + n) * 512) rfl rfl Tryd.underlying23 sz5_1 (by omega) (by omega)) ?_
  refine tkg (i := 24) rfl (by kernel_rfl) rfl H rfl (fun w' H => r_cvBS rfl (by first | exact RB.bj H hYl | exact RB.of H (by omega)) Tryd.underlying23 Tryd.underlying5 Tryd.underlying9) ?_
  refine tkg (i := 25) rfl (by kernel_rfl) rfl H rfl (fun w' H => r_catT rfl rfl (by first | omega | (simp; omega))) ?_
  refine tkg (i := 26) rfl (by kernel_rfl) rfl H rfl (fun w' H => r_eqlT rfl rfl) ?_
  refine tk (i := 27) rfl (by kernel_rfl) rfl H (fun w' H => r_pkT (v := .bool _) rfl rfl) ?_
  refine tk (i := 28) rfl (by kernel_rfl) rfl H (fun w' H => r_mv (v := .bool _) rfl) ?_
  first | refine spaL (t := 119) (b := true) rfl ?_ | refine spaT (t := 119) rfl hcat ?_   -- guard 5
  refine fk (i := 29) (by kernel_rfl) rfl rfl rfl ?_
  refine gy rfl ?_
  refine cl ca8 (c_partAwake _) rfl ?_
  rintro _ w9 ⟨rfl, F⟩
  replace H := H.keep F; clear F
  refine nl ?_
  refine then_n ?_
  refine ⟨H, ?_⟩
  refine tk (i := 30) rfl (by kernel_rfl) rfl H (fun w' H => r_pkT (v := .bool _) rfl rfl) ?_
  refine tk (i := 31) rfl (by kernel_rfl) rfl H (fun w' H => r_asg (v := .bool _) rfl) ?_
  refine da (by kernel_rfl) ?_
  refine then_n ?_
  refine rt ?_
  refine fin_r ?_
  exact ⟨rfl, H.fr⟩

theorem lawAt (w : World) (a0 a1 a2 a3 a4 : Int) (h0 : 0 ≤ a0 ∧ a0 ≤ 255) (h1 : 0 ≤ a1 ∧ a1 ≤ 255) (h2 : 0 ≤ a2 ∧ a2 ≤ 255) (h3 : 0 ≤ a3 ∧ a3 ≤ 255) (h4 : 0 ≤ a4 ∧ a4 ≤ 65535) (ad : Addr) (hE : EofW 0 91 ad w) : Calls Tryd.prog 3 #[.int .u8 a0, .int .u8 a1, .int .u8 a2, .int .u8 a3, .int .u16 a4] w (Ret fun v w' => v = .bool true ∧ Fr [] w w') := by
  obtain ⟨u0, rfl⟩ := Int.eq_ofNat_of_zero_le h0.1
  obtain ⟨u1, rfl⟩ := Int.eq_ofNat_of_zero_le h1.1
  obtain ⟨u2, rfl⟩ := Int.eq_ofNat_of_zero_le h2.1
  obtain ⟨u3, rfl⟩ := Int.eq_ofNat_of_zero_le h3.1
  obtain ⟨u4, rfl⟩ := Int.eq_ofNat_of_zero_le h4.1
  exact c_law w u0 u1 u2 u3 u4 ⟨by omega, by omega, by omega⟩ (by omega) (by omega) ad hE

end Go.Proofs.YtgmkjndmjnbahaaDoor.X
