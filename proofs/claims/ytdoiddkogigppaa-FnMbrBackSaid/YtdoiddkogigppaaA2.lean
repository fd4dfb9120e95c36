/- Walks of functions, printed by a program of this claim. -/
import Derived.Test.YtdoiddkogigppaaA1
import Derived.Test.YtdoiddkogigppaaMbrRow
namespace Go.Proofs.Ytdoiddkogigppaa.X
set_option linter.unusedVariables false
set_option linter.unusedSimpArgs false
open Go Go.RowKit

namespace A2
theorem ag26_11 : aggB Try.prog 26 11 = true := by kernel_rfl
theorem ag27_44 : aggB Try.prog 27 44 = true := by kernel_rfl
theorem fo26_0 : fieldOff Try.prog 26 0 = some 0 := by kernel_rfl
theorem ri26 : rowInfo Try.prog 26 = some ([.int .i64 0, .bool false, .int .u8 0, .int .u32 0, .int .u32 0, .int .u8 0, .int .u8 0, .int .u8 0, .int .u8 0, .int .u8 0, .int .u8 0], 32) := by kernel_rfl
theorem sc3 : scalarB Try.prog 3 = true := by kernel_rfl
theorem sz26_11 : sizeB Try.prog 26 11 = true := by kernel_rfl
theorem ze26 : zeroL Try.prog 26 = some [.int .i64 0, .bool false, .int .u8 0, .int .u32 0, .int .u32 0, .int .u8 0, .int .u8 0, .int .u8 0, .int .u8 0, .int .u8 0, .int .u8 0] := by kernel_rfl
theorem ze27 : zeroL Try.prog 27 = some [.int .i64 0, .bool false, .int .u8 0, .int .u32 0, .int .u32 0, .int .u8 0, .int .u8 0, .int .u8 0, .int .u8 0, .int .u8 0, .int .u8 0, .int .i64 0, .bool false, .int .u8 0, .int .u32 0, .int .u32 0, .int .u8 0, .int .u8 0, .int .u8 0, .int .u8 0, .int .u8 0, .int .u8 0, .int .i64 0, .bool false, .int .u8 0, .int .u32 0, .int .u32 0, .int .u8 0, .int .u8 0, .int .u8 0, .int .u8 0, .int .u8 0, .int .u8 0, .int .i64 0, .bool false, .int .u8 0, .int .u32 0, .int .u32 0, .int .u8 0, .int .u8 0, .int .u8 0, .int .u8 0, .int .u8 0, .int .u8 0] := by kernel_rfl

end A2
open A2

set_option maxRecDepth 100000 in
theorem c_mbrList (w : World) (A : Option Addr) (m c : Nat) (qs : List MP) (hq : RM w A m c qs) : Calls Try.prog 6 #[.slice A m c] w (Ret fun v w' => ∃ (b cap : Nat) (xs : List MP), v = .tuple #[.slice (some ⟨b, 0, none⟩) xs.length cap, .agg ((arr4 xs xs.length).flatMap MP.cells).toArray] ∧ xs.length = min m 4 ∧ (∀ x ∈ xs, x.ok) ∧ w.heap.size ≤ b ∧ (∃ junk, w'.heap[b]? = some (.cells (xs.flatMap MP.cells ++ junk).toArray 26 (0, 0))) ∧ xs.length ≤ cap ∧ cap ≤ maxLen ∧ Fr [] w w') := by
  refine enterR [.tmp 2, .cell 3 27] Try.func6 rfl rfl rfl rfl ?_
  have H := SH.nil w
  have hc1 := hq.cap
  have hc2 := hq.len
  have hmx : maxLen = 9223372036854775807 := by decide
  refine sq ?_
  refine rg ?_
  refine asg (v := .slice _ _ _) rfl rfl ?_
  refine al H ze27 rfl ?_
  clear H; intro b1 w1 hb1 H _
  refine nl ?_
  refine then_n ?_
  refine sq ?_
  refine rg ?_
  refine al H ze27 rfl ?_
  clear H; intro b2 w2 hb2 H _
  refine nl ?_
  refine then_n ?_
  refine sq ?_
  refine rg ?_
  refine bsl (sz := 11) (out := ?o1) H Try.underlying22 ze26 sz26_11 (by decide) ?f1 rfl ?_
  case f1 =>
    exact FS.nil
  clear H; intro b3 w3 hb3 H F
  refine mv (v := .slice _ _ _) rfl rfl ?_
  refine mv (v := .slice _ _ _) rfl rfl ?_
  refine lnS rfl Try.underlying22 rfl ?_
  refine min2 rfl rfl rfl ?_
  refine slh rfl rfl Try.underlying22 sz26_11 (by first | trivial | omega | (simp; omega)) rfl ?_
  refine apS (zs := MP.zero.cells) ((qs.take (min (m : Int) 4).toNat).flatMap MP.cells) (OR.made (n := 0) (cap := 0) (cur := []) H (by decide) (by decide) rfl) rfl rfl Try.underlying22 ri26 (by rw [flat_len MP.cells_len, List.length_take, hq.len]; show _ = _ * 11; omega) (fun j u hu => let ⟨ad, e, h⟩ := hq.at' j u (flat_pre hu); ⟨ad, e, H.fr.cell h (by simp)⟩) mp_one (fun h => by have := hq.nil h; omega) (by omega) (by unfold maxLen; omega) rfl ?_
  clear H; intro a4 cp4 w4 O
  obtain ⟨b4, cur, rfl, hnc, hcm, hcl, htk, H⟩ := O.blk
  obtain ⟨junk, hj⟩ := take_split htk
  clear htk; subst hj
  refine asg (v := .slice _ _ _) rfl rfl ?_
  refine nl ?_
  refine then_n ?_
  refine sq ?_
  refine sq ?_
  refine rg ?_
  refine mv (v := .slice _ _ _) rfl rfl ?_
  refine lnS rfl Try.underlying22 rfl ?_
  refine mv (v := .int .i64 _) rfl rfl ?_
  refine nl ?_
  refine then_n ?_
  refine bk ?_
  refine lpM (α := Nat × List MP) [6, 16, 17, 18, 19, 20, 21, 22, 23, 24, 25, 26, 27, 28, 29, 30, 31] (fun (i, xs) => [(16, .int .i64 (i : Int))]) (fun (i, xs) w' => i ≤ xs.length ∧ xs.length = (min (m : Int) 4).toNat ∧ (∀ x ∈ xs, x.ok) ∧ SH w [] w' [⟨b4, .cells (xs.flatMap MP.cells ++ junk).toArray 26 (0, 0), true⟩, ⟨b2, .cells ((arr4 xs i).flatMap MP.cells).toArray 27 (0, 0), true⟩, ⟨b1, .cells ((List.replicate 4 MP.zero).flatMap MP.cells).toArray 27 (0, 0), true⟩]) (fun (i, xs) => xs.length - i) (0, qs.take (min (m : Int) 4).toNat) ?_ (fC (by first | rfl | exact congrArg (Value.int _) (by first | omega | assumption | (symm; assumption) | (simp; done) | (simp; omega)) | exact congrArg (fun n => Value.slice _ n _) (by first | simp; done | simp; omega)) (fN _)) ?_   -- loop 1
  · exact ⟨by omega, by rw [List.length_take]; omega, fun x hx => hq.ok x (List.mem_of_mem_take hx), H⟩
  · rintro ⟨i, xs⟩ ρx w5 ⟨hi, hxl, hok, H⟩
    refine sq ?_
    refine rg ?_
    refine lss rfl rfl rfl ?_
    refine nl ?_
    refine then_n ?_
    refine sq ?_
    first | refine cd rfl (fun hc1 => ?_) (fun hc1 => ?_) | refine cn rfl (fun hc1 => ?_) (fun hc1 => ?_)   -- test 1
    · obtain ⟨x, hx⟩ : ∃ x, xs[i]? = some x := ⟨_, List.getElem?_eq_getElem (by omega)⟩
      have hx2 : (xs.set i { x with ix := (i : Int) + 1 })[i]? = some { x with ix := (i : Int) + 1 } := by rw [List.getElem?_set_self (by omega)]
      have hfl : (xs.flatMap MP.cells).length = xs.length * 11 := flat_len MP.cells_len xs
      have hal : ((arr4 xs i).flatMap MP.cells).length = 44 := by rw [flat_len MP.cells_len, arr4_len hi (by omega)]
      refine sk ?_
      refine then_n ?_
      refine sq ?_
      refine bk ?_
      refine sq ?_
      refine rg ?_
      refine mv (v := .int .i64 _) rfl rfl ?_
      refine asg (v := .int .i64 _) rfl rfl ?_
      refine nl ?_
      refine then_n ?_
      refine sq ?_
      refine rg ?_
      refine mv (v := .slice _ _ _) rfl rfl ?_
      refine mv (v := .int .i64 _) rfl rfl ?_
      refine mv (v := .int .i64 _) rfl rfl ?_
      refine add rfl rfl (by first | exact w_i64 (by omega) | exact w_i64 (rng_i64 _) | rfl) rfl ?_
      first | refine ia rfl rfl Try.underlying22 sz26_11 (by omega) rfl ?_ | refine iB rfl rfl Try.underlying22 sz26_11 (by omega) rfl ?_
      refine fa rfl fo26_0 rfl ?_
      refine st (v := .int .i64 _) H rfl rfl sc3 rfl (by first | decide | (simp only [List.length_set, List.length_cons, List.length_nil, List.length_replicate, List.length_append, Bs_length]; omega) | omega) (by omega) ?_
      clear H; intro w6 H _
      refine nl ?_
      refine then_n ?_
      refine rg ?_
      replace H := sh_cells H ((set_ix (by omega)).trans (flat_set hx))
      refine mv (v := .int .i64 _) rfl rfl ?_
      refine mv (v := .slice _ _ _) rfl rfl ?_
      refine mv (v := .int .i64 _) rfl rfl ?_
      first | refine ia rfl rfl Try.underlying22 sz26_11 (by omega) rfl ?_ | refine iB rfl rfl Try.underlying22 sz26_11 (by omega) rfl ?_
      refine la H rfl ag26_11 (MP.cells_len _) (by rw [show 0 + (i : Int).toNat * 11 = i * 11 by omega]; exact mp_at hx2) rfl ?_
      first | refine iy rfl rfl Try.underlying27 sz26_11 (by omega) rfl ?_ | refine iyB rfl rfl Try.underlying27 sz26_11 (by omega) rfl ?_
      refine sa (cs' := (arr4 (xs.set i { x with ix := (i : Int) + 1 }) (i + 1)).flatMap MP.cells) H rfl rfl ag26_11 (MP.cells_len _) rfl (by rw [hal]; omega) (by omega) (by rw [show 0 + (i : Int).toNat * 11 = i * 11 by omega, ← arr4_step (by omega) (by omega)]; exact flat_put0 (arr4_get hi (by omega))) ?_
      clear H; intro w90 H _
      refine nl ?_
      refine in_n ?_
      refine then_n ?_
      refine rg ?_
      refine add rfl rfl (by first | exact w_i64 (by omega) | exact w_i64 (rng_i64 _) | rfl) rfl ?_
      refine mv (v := .int .i64 _) rfl rfl ?_
      refine nl ?_
      refine loop_n ?_
      exact ⟨(i + 1, xs.set i { x with ix := (i : Int) + 1 }), (by dsimp only; rw [List.length_set]; omega), ⟨by rw [List.length_set]; omega, by rw [List.length_set]; exact hxl, ok_set hok hx (by omega), H⟩, (fC (by first | rfl | exact congrArg (Value.int _) (by first | omega | assumption | (symm; assumption) | (simp; done) | (simp; omega)) | exact congrArg (fun n => Value.slice _ n _) (by first | simp; done | simp; omega)) (fN _)), (by repeat (first | exact Agree.setL rfl Agree.mask | exact Agree.self _ _ | refine Agree.upd rfl ?_ | refine Agree.setL rfl ?_ | refine Agree.mask2 rfl ?_))⟩
    · have hyl : ((arr4 xs i).flatMap MP.cells).length = 44 := by rw [flat_len MP.cells_len, arr4_len hi (by omega)]
      obtain rfl : i = xs.length := by omega
      refine ex ?_
      refine then_e ?_
      refine loop_e ?_
      refine in_hit rfl ?_
      refine then_n ?_
      refine sq ?_
      refine dr (by kernel_rfl) ?_   -- region 9
      have H := H.drew
      refine holdH H [3] ?_
      refine tk (i := 0) rfl (by kernel_rfl) rfl H (fun w' H => r_mv (v := .slice _ _ _) rfl) ?_
      refine tk (i := 1) rfl (by kernel_rfl) rfl H (fun w' H => r_la H rfl ag27_44 hyl (by rw [List.drop_zero, List.take_of_length_le (by omega)])) ?_
      refine tk (i := 2) rfl (by kernel_rfl) rfl H (fun w' H => r_asg (v := .slice _ _ _) rfl) ?_
      refine fb (i := 3) (by kernel_rfl) rfl rfl rfl ?_
      refine sa (cs' := (arr4 xs xs.length).flatMap MP.cells) H rfl rfl ag27_44 hyl (List.all_eq_true.2 mp_one) (by decide) (by omega) (by rw [List.take_zero, List.nil_append, show List.drop (0 + 44) ((List.replicate 4 MP.zero).flatMap MP.cells) = [] from rfl, List.append_nil]) ?_
      clear H; intro w91 H _
      refine nl ?_
      refine then_n ?_
      refine dn (by kernel_rfl) ?_
      refine then_n ?_
      refine rt ?_
      refine finR_r ?_
      refine ⟨[_, _], ⟨rfl, finC rfl H.look (by rw [hyl]; exact ag27_44), trivial⟩, b4, cp4, xs, ?_, by omega, hok, H.ge, ⟨junk, H.look⟩, by omega, hcm, H.fr⟩
      show Value.tuple #[.slice (some ⟨b4, 0, none⟩) (0 + (min (m : Int) 4).toNat) cp4, .agg ((arr4 xs xs.length).flatMap MP.cells).toArray] = _
      rw [show 0 + (min (m : Int) 4).toNat = xs.length by omega]

end Go.Proofs.Ytdoiddkogigppaa.X
