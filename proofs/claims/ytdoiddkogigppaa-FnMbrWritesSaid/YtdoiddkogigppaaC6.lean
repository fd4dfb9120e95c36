/- Walks of functions, printed by a program of this claim. -/
import Derived.Test.YtdoiddkogigppaaC5
namespace Go.Proofs.Ytdoiddkogigppaa.X
set_option linter.unusedVariables false
set_option linter.unusedSimpArgs false
open Go Go.RowKit

namespace C6
theorem ag26_11 : aggB Try.prog 26 11 = true := by kernel_rfl
theorem ag27_44 : aggB Try.prog 27 44 = true := by kernel_rfl
theorem ca10 : callable Try.prog 10 = true := by kernel_rfl
theorem ca11 : callable Try.prog 11 = true := by kernel_rfl
theorem ca12 : callable Try.prog 12 = true := by kernel_rfl
theorem ca13 : callable Try.prog 13 = true := by kernel_rfl
theorem ca6 : callable Try.prog 6 = true := by kernel_rfl
theorem ca7 : callable Try.prog 7 = true := by kernel_rfl
theorem ri5 : rowInfo Try.prog 5 = some ([.int .u8 0], 1) := by kernel_rfl
theorem sz26_11 : sizeB Try.prog 26 11 = true := by kernel_rfl
theorem sz5_1 : sizeB Try.prog 5 1 = true := by kernel_rfl
theorem ze26 : zeroL Try.prog 26 = some [.int .i64 0, .bool false, .int .u8 0, .int .u32 0, .int .u32 0, .int .u8 0, .int .u8 0, .int .u8 0, .int .u8 0, .int .u8 0, .int .u8 0] := by kernel_rfl
theorem ze27 : zeroL Try.prog 27 = some [.int .i64 0, .bool false, .int .u8 0, .int .u32 0, .int .u32 0, .int .u8 0, .int .u8 0, .int .u8 0, .int .u8 0, .int .u8 0, .int .u8 0, .int .i64 0, .bool false, .int .u8 0, .int .u32 0, .int .u32 0, .int .u8 0, .int .u8 0, .int .u8 0, .int .u8 0, .int .u8 0, .int .u8 0, .int .i64 0, .bool false, .int .u8 0, .int .u32 0, .int .u32 0, .int .u8 0, .int .u8 0, .int .u8 0, .int .u8 0, .int .u8 0, .int .u8 0, .int .i64 0, .bool false, .int .u8 0, .int .u32 0, .int .u32 0, .int .u8 0, .int .u8 0, .int .u8 0, .int .u8 0, .int .u8 0, .int .u8 0] := by kernel_rfl
theorem ze5 : zeroL Try.prog 5 = some [.int .u8 0] := by kernel_rfl

end C6
open C6

theorem eqM_ix' (p : MP) (k : Int) : eqM { p with ix := k } p = true := eqM_ix p k
theorem mps_mbr {ds r : List UInt8} {fs : List MP} (h4 : fs.length = 4) (hd : 512 ≤ ds.length) (hok : ∀ f ∈ fs, f.ok) : ∀ (i : Nat) (f : MP), fs[i]? = some f → (mpsOf (mbrB ds fs ++ r))[i]? = some { f with ix := ((i + 1 : Nat) : Int) } := fun i f hf => by
  have hi : i < 4 := by have := (List.getElem?_eq_some_iff.1 hf).1; omega
  rw [mpsOf_get hi, mpAt_pre (n := 510) (es := mbrB ds fs) (by omega) (by rw [List.take_append_of_le_length (by rw [mbrB_len h4 hd]; omega)]), mpAt_mbr (i + 1) hf h4 hd (hok f (List.mem_of_getElem? hf))]
theorem sig_app {ds r : List UInt8} (h : 512 ≤ ds.length) : sigB (ds ++ r) = sigB ds := by
  rw [← sig_take, List.take_append_of_le_length h, sig_take]
theorem flags_app {ds r : List UInt8} (h : 512 ≤ ds.length) (hf : flagsB ds) : flagsB (ds ++ r) :=
  flags_pre (es := ds) (by rw [List.take_append_of_le_length (by omega)]) hf

set_option maxRecDepth 100000 in
theorem c_FnMbrWrites (w : World) (A : Option Addr) (m c : Nat) (qs : List MP) (hq : RM w A m c qs) (x : Int) (hx : 0 ≤ x ∧ x ≤ 255) : Calls Try.prog 4 #[.slice A m c, .int .u8 x] w (Ret fun v w' => v = .bool true ∧ Fr [] w w') := by
  refine enter (fun ρ => ρ 4) Try.func4 rfl rfl rfl (res1 rfl) ?_
  have H := SH.nil w
  have hqc := hq.cap
  have hmx : maxLen = 9223372036854775807 := by decide
  refine sq ?_
  refine rg ?_
  refine asg (v := .bool _) rfl rfl ?_
  refine nl ?_
  refine then_n ?_
  refine sq ?_
  refine sq ?_
  refine rg ?_
  refine mv (v := .slice _ _ _) rfl rfl ?_
  refine lnS rfl Try.underlying22 rfl ?_
  refine gtr rfl rfl rfl ?_
  refine nl ?_
  refine then_n ?_
  first | refine cd rfl (fun hc1 => ?_) (fun hc1 => ?_) | refine cn rfl (fun hc1 => ?_) (fun hc1 => ?_)   -- test 1
  · refine sq ?_
    refine rg ?_
    refine asg (v := .bool _) rfl rfl ?_
    refine nl ?_
    refine then_n ?_
    refine rt ?_
    refine then_r ?_
    refine fin_r ?_
    exact ⟨rfl, H.fr⟩
  · refine sk ?_
    refine then_n ?_
    refine sq ?_
    refine rg ?_
    refine mv (v := .slice _ _ _) rfl rfl ?_
    refine cl ca6 (c_mbrList _ _ _ _ _ hq) rfl ?_
    rintro _ w1 ⟨bl, cpl, xs, rfl, hxs, hxo, hbl, ⟨jl, hol⟩, hcl, hcm, F⟩
    replace H := H.new F hbl hol; clear F hol
    have hfo : ∀ p ∈ arr4 xs xs.length, p.ok := arr4_ok hxo
    have hf4 : (arr4 xs xs.length).length = 4 := arr4_len (Nat.le_refl _) (by omega)
    generalize hF : arr4 xs xs.length = fs at hfo hf4
    refine mv (v := .tuple _) rfl rfl ?_
    refine xt rfl rfl rfl ?_
    refine xt rfl rfl rfl ?_
    have hfc : (fs.flatMap MP.cells).length = 44 := by rw [flat_len MP.cells_len, hf4]
    refine al H ze27 rfl ?_
    clear H; intro b1 w2 hb1 H _
    refine asg (v := .slice _ _ _) rfl rfl ?_
    refine sa (cs' := fs.flatMap MP.cells) H rfl rfl ag27_44 hfc (List.all_eq_true.2 mp_one) (by decide) (by omega) (List.append_nil _) ?_
    clear H; intro w33 H _
    refine nl ?_
    refine then_n ?_
    refine sq ?_
    refine rg ?_
    refine mv (v := .int .u8 _) rfl rfl ?_
    refine cl ca7 (c_partDisk _ 4 512 _ hx (by decide) (by decide)) rfl ?_
    rintro _ w3 ⟨b2, ds, rfl, hdl, hb2, ho2, F⟩
    replace H := H.new F hb2 ho2; clear F ho2
    refine asg (v := .slice _ _ _) rfl rfl ?_
    refine nl ?_
    refine then_n ?_
    refine sq ?_
    refine rg ?_
    refine bsl (sz := 1) (out := ?o1) H Try.underlying30 ze5 sz5_1 (by decide) ?f1 rfl ?_
    case f1 =>
      exact FS.nil
    clear H; intro b3 w4 hb3 H F
    refine mv (v := .slice _ _ _) rfl rfl ?_
    refine apS (zs := [.int .u8 0]) (Bs ds) (OR.made (n := 0) (cap := 0) (cur := []) H (by decide) (by decide) rfl) rfl rfl Try.underlying30 ri5 (by rw [Bs_length, hdl]; rfl) (cells_look H.look) Bs_one (by simp) (by omega) (by unfold maxLen; omega) rfl ?_
    clear H; intro a9 cp9 w5 O
    have H := O.sh
    have hRB : RB w5 (some a9) (0 + 4 * 512) ds := OR.rb (bs := ds) O
    refine mv (v := .slice _ _ _) rfl rfl ?_
    refine cl ca12 (c_MbrWrite _ (some a9) (0 + 4 * 512) cp9 ds hRB ⟨by omega, by omega⟩ (some ⟨bl, 0, none⟩) xs.length cpl xs (RM.own (H.look (b := bl)) ⟨hcl, hcm⟩ hxo) (by omega)) rfl ?_
    rintro _ w6 ⟨b5, c5, junk5, fr5, rfl, hb5, hc5, ho5, F⟩
    rw [hF] at ho5
    replace H := H.new F hb5 ho5; clear F ho5
    have hml : (mbrB ds fs).length = 4 * 512 := by rw [mbrB_len hf4 (by omega), hdl]
    have hsg : sigB (mbrB ds fs ++ junk5) = true := (sig_app (by omega)).trans (sigB_mbr hf4 (by omega))
    have hfl : flagsB (mbrB ds fs ++ junk5) := flags_app (by omega) (mbr_flags hf4 (by omega))
    have hmp := mps_mbr (r := junk5) hf4 (by omega) hfo (ds := ds)
    refine mv (v := .tuple _) rfl rfl ?_
    refine xt rfl rfl rfl ?_
    refine xt rfl rfl rfl ?_
    refine asg (v := .slice _ _ _) rfl rfl ?_
    refine asg (v := .bool _) rfl rfl ?_
    refine nl ?_
    refine then_n ?_
    refine sq ?_
    refine rg ?_
    refine mv (v := .slice _ _ _) rfl rfl ?_
    refine cl ca13 (c_mbrDecode _ b5 (0 + 4 * 512) c5 _ fr5 (mbrB ds fs ++ junk5) H.look ⟨by omega, by rw [List.length_append, hml]; omega, by omega, by omega⟩ hsg hfl) rfl ?_
    rintro _ w7 ⟨rfl, F⟩
    replace H := H.keep F; clear F
    refine mv (v := .tuple _) rfl rfl ?_
    refine xt rfl rfl rfl ?_
    refine xt rfl rfl rfl ?_
    refine al H ze27 rfl ?_
    clear H; intro b4 w8 hb4 H _
    refine sa (cs' := (mpsOf (mbrB ds fs ++ junk5)).flatMap MP.cells) H rfl rfl ag27_44 rfl (List.all_eq_true.2 mp_one) (by decide) (by omega) (List.append_nil _) ?_
    clear H; intro w34 H _
    refine asg (v := .bool _) rfl rfl ?_
    refine nl ?_
    refine then_n ?_
    refine sq ?_
    refine sq ?_
    refine dr (by kernel_rfl) ?_   -- region 7
    have H := H.drew
    refine holdH H [] ?_
    refine tk (i := 0) rfl (by kernel_rfl) rfl H (fun w' H => r_mv (v := .bool _) rfl) ?_
    refine tk (i := 1) rfl (by kernel_rfl) rfl H (fun w' H => r_unot rfl) ?_
    refine tk (i := 2) rfl (by kernel_rfl) rfl H (fun w' H => r_mv (v := .bool _) rfl) ?_
    first | refine spaL (t := 39) (b := false) rfl ?_ | refine spaF (t := 39) rfl rfl ?_   -- guard 1
    refine tkg (i := 3) rfl (by kernel_rfl) rfl H rfl (fun w' H => r_mv (v := .bool _) rfl) ?_
    refine tkg (i := 4) rfl (by kernel_rfl) rfl H rfl (fun w' H => r_unot rfl) ?_
    refine tk (i := 5) rfl (by kernel_rfl) rfl H (fun w' H => r_pkF (v := .bool _) rfl rfl) ?_
    refine tk (i := 6) rfl (by kernel_rfl) rfl H (fun w' H => r_mv (v := .bool _) rfl) ?_
    first | refine spaL (t := 43) (b := false) rfl ?_ | refine spaF (t := 43) rfl rfl ?_   -- guard 2
    refine tkg (i := 7) rfl (by kernel_rfl) rfl H rfl (fun w' H => r_mv (v := .slice _ _ _) rfl) ?_
    refine tkg (i := 8) rfl (by kernel_rfl) rfl H rfl (fun w' H => r_lnS rfl Try.underlying30) ?_
    refine tkg (i := 9) rfl (by kernel_rfl) rfl H rfl (fun w' H => r_mv (v := .slice _ _ _) rfl) ?_
    refine tkg (i := 10) rfl (by kernel_rfl) rfl H rfl (fun w' H => r_lnS rfl Try.underlying30) ?_
    refine tkg (i := 11) rfl (by kernel_rfl) rfl H rfl (fun w' H => r_neq rfl rfl) ?_
    refine tk (i := 12) rfl (by kernel_rfl) rfl H (fun w' H => r_pkF (v := .bool _) rfl rfl) ?_
    refine tk (i := 13) rfl (by kernel_rfl) rfl H (fun w' H => r_mv (v := .bool _) rfl) ?_
    first | refine spaL (t := 50) (b := false) rfl ?_ | refine spaF (t := 50) rfl (fun h => h rfl) ?_   -- guard 3
    refine tkg (i := 14) rfl (by kernel_rfl) rfl H rfl (fun w' H => r_mv (v := .slice _ _ _) rfl) ?_
    refine tkg (i := 15) rfl (by kernel_rfl) rfl H rfl (fun w' H => r_sll rfl rfl Try.underlying30 sz5_1 (by first | trivial | omega | (simp; omega))) ?_
    refine tkg (i := 16) rfl (by kernel_rfl) rfl H rfl (fun w' H => r_cvBS rfl (by first | exact RB.of H (by rw [hdl]; decide) | exact RB.of H (by rw [List.length_append, hml]; omega)) Try.underlying30 Try.underlying5 Try.underlying9) ?_
    refine tkg (i := 17) rfl (by kernel_rfl) rfl H rfl (fun w' H => r_mv (v := .slice _ _ _) rfl) ?_
    refine tkg (i := 18) rfl (by kernel_rfl) rfl H rfl (fun w' H => r_sll rfl rfl Try.underlying30 sz5_1 (by first | trivial | omega | (simp; omega))) ?_
    refine tkg (i := 19) rfl (by kernel_rfl) rfl H rfl (fun w' H => r_cvBS rfl (by first | exact RB.of H (by rw [hdl]; decide) | exact RB.of H (by rw [List.length_append, hml]; omega)) Try.underlying30 Try.underlying5 Try.underlying9) ?_
    refine tkg (i := 20) rfl (by kernel_rfl) rfl H rfl (fun w' H => r_neqT rfl rfl) ?_
    refine tk (i := 21) rfl (by kernel_rfl) rfl H (fun w' H => r_pkF (v := .bool _) rfl rfl) ?_
    refine da (by kernel_rfl) ?_
    refine then_n ?_
    first | refine cF rfl (fun h => h (mbr_tail hf4 (by omega))) ?_ | refine cbF rfl (fun h => h (mbr_tail hf4 (by omega))) ?_   -- test 2
    refine sk ?_
    refine then_n ?_
    refine sq ?_
    refine sq ?_
    refine rg ?_
    refine la (vs := (mpsOf (mbrB ds fs ++ junk5)).flatMap MP.cells) H rfl ag27_44 rfl rfl rfl ?_
    refine mv (v := .int .i64 _) rfl rfl ?_
    refine nl ?_
    refine then_n ?_
    refine bk ?_
    refine lpM (α := Nat) [4, 12, 13, 60, 61, 62, 63, 64, 65, 66, 67, 68, 69, 70] (fun i => [(60, .int .i64 (i : Int))]) (fun i w' => i ≤ 4 ∧ SH w [] w' [⟨b1, .cells (fs.flatMap MP.cells).toArray 27 (0, 0), true⟩]) (fun i => 4 - i) 0 ?_ (fC (by first | rfl | exact congrArg (Value.int _) (by first | omega | assumption | (symm; assumption) | (simp; done) | (simp; omega)) | exact congrArg (fun n => Value.slice _ n _) (by first | simp; done | simp; omega)) (fN _)) ?_   -- loop 1
    · exact ⟨by omega, H.sub (by repeat (first | exact List.Sublist.refl _ | exact List.nil_sublist _ | apply List.Sublist.cons_cons | apply List.Sublist.cons))⟩
    · rintro i ρx w9 ⟨hi, H⟩
      refine sq ?_
      refine rg ?_
      refine lss rfl rfl rfl ?_
      refine nl ?_
      refine then_n ?_
      refine sq ?_
      first | refine cd rfl (fun hc3 => ?_) (fun hc3 => ?_) | refine cn rfl (fun hc3 => ?_) (fun hc3 => ?_)   -- test 3
      · obtain ⟨f, hf⟩ : ∃ f, fs[i]? = some f := ⟨_, List.getElem?_eq_getElem (by omega)⟩
        refine sk ?_
        refine then_n ?_
        refine sq ?_
        refine bk ?_
        refine sq ?_
        refine rg ?_
        refine mv (v := .int .i64 _) rfl rfl ?_
        refine ixW rfl rfl Try.underlying27 ag26_11 (by omega) (mp_ix (hmp i f hf)) rfl ?_
        refine al H ze26 rfl ?_
        clear H; intro b5 w10 hb5 H _
        refine asg (v := .int .i64 _) rfl rfl ?_
        refine sa (cs' := ({ f with ix := ((i + 1 : Nat) : Int) } : MP).cells) H rfl rfl ag26_11 rfl rfl (by decide) (by omega) rfl ?_
        clear H; intro w35 H _
        refine nl ?_
        refine then_n ?_
        refine sq ?_
        refine dr (by kernel_rfl) ?_   -- region 12
        have H := H.drew
        refine holdH H [] ?_
        refine tk (i := 0) rfl (by kernel_rfl) rfl H (fun w' H => r_la (vs := ({ f with ix := ((i + 1 : Nat) : Int) } : MP).cells) H rfl ag26_11 rfl rfl) ?_
        refine tk (i := 1) rfl (by kernel_rfl) rfl H (fun w' H => r_mv (v := .int .i64 _) rfl) ?_
        first | refine tk (i := 2) rfl (by kernel_rfl) rfl H (fun w' H => r_iy rfl rfl Try.underlying27 sz26_11 (by omega)) ?_ | refine tk (i := 2) rfl (by kernel_rfl) rfl H (fun w' H => r_iyB rfl rfl Try.underlying27 sz26_11 (by omega)) ?_
        refine tk (i := 3) rfl (by kernel_rfl) rfl H (fun w' H => r_la (vs := f.cells) H rfl ag26_11 (MP.cells_len f) (by rw [show 0 + (i : Int).toNat * 11 = i * 11 by omega]; exact flat_get MP.cells_len fs i f hf)) ?_
        refine fk (i := 4) (by kernel_rfl) rfl rfl rfl ?_
        refine cl ca11 (c_sameMbr _ { f with ix := ((i + 1 : Nat) : Int) } f) rfl ?_
        rintro v w11 ⟨hv, F⟩
        rw [eqM_ix] at hv; subst hv
        replace H := H.keep F; clear F
        refine nl ?_
        refine then_n ?_
        refine ⟨H, ?_⟩
        refine tk (i := 5) rfl (by kernel_rfl) rfl H (fun w' H => r_unot rfl) ?_
        refine da (by kernel_rfl) ?_
        refine then_n ?_
        first | refine cF rfl rfl ?_ | refine cbF rfl rfl ?_   -- test 4
        refine sk ?_
        refine in_n ?_
        refine then_n ?_
        refine rg ?_
        refine add rfl rfl (by first | exact w_i64 (by omega) | exact w_i64 (rng_i64 _) | rfl) rfl ?_
        refine mv (v := .int .i64 _) rfl rfl ?_
        refine nl ?_
        refine loop_n ?_
        exact ⟨i + 1, (by (try dsimp only); omega), ⟨by omega, H.sub (by repeat (first | exact List.Sublist.refl _ | exact List.nil_sublist _ | apply List.Sublist.cons_cons | apply List.Sublist.cons))⟩, (fC (by first | rfl | exact congrArg (Value.int _) (by first | omega | assumption | (symm; assumption) | (simp; done) | (simp; omega)) | exact congrArg (fun n => Value.slice _ n _) (by first | simp; done | simp; omega)) (fN _)), (by repeat (first | exact Agree.setL rfl Agree.mask | exact Agree.self _ _ | refine Agree.upd rfl ?_ | refine Agree.setL rfl ?_ | refine Agree.mask2 rfl ?_))⟩
      · refine ex ?_
        refine then_e ?_
        refine loop_e ?_
        refine in_hit rfl ?_
        refine then_n ?_
        refine sq ?_
        refine rg ?_
        refine cl ca10 (c_partAwake _) rfl ?_
        rintro _ w12 ⟨rfl, F⟩
        replace H := H.keep F; clear F
        refine asg (v := .bool _) rfl rfl ?_
        refine nl ?_
        refine then_n ?_
        refine rt ?_
        refine fin_r ?_
        exact ⟨rfl, H.fr⟩

end Go.Proofs.Ytdoiddkogigppaa.X
