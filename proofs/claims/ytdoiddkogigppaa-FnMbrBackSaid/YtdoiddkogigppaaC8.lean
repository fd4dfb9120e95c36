/- Walks of functions, printed by a program of this claim. -/
import Derived.Test.YtdoiddkogigppaaC7
namespace Go.Proofs.Ytdoiddkogigppaa.X
set_option linter.unusedVariables false
set_option linter.unusedSimpArgs false
open Go Go.RowKit

namespace C8
theorem ag26_11 : aggB Try.prog 26 11 = true := by kernel_rfl
theorem ag27_44 : aggB Try.prog 27 44 = true := by kernel_rfl
theorem ca10 : callable Try.prog 10 = true := by kernel_rfl
theorem ca11 : callable Try.prog 11 = true := by kernel_rfl
theorem ca12 : callable Try.prog 12 = true := by kernel_rfl
theorem ca14 : callable Try.prog 14 = true := by kernel_rfl
theorem ca6 : callable Try.prog 6 = true := by kernel_rfl
theorem ca7 : callable Try.prog 7 = true := by kernel_rfl
theorem ca9 : callable Try.prog 9 = true := by kernel_rfl
theorem sz26_11 : sizeB Try.prog 26 11 = true := by kernel_rfl
theorem ze26 : zeroL Try.prog 26 = some [.int .i64 0, .bool false, .int .u8 0, .int .u32 0, .int .u32 0, .int .u8 0, .int .u8 0, .int .u8 0, .int .u8 0, .int .u8 0, .int .u8 0] := by kernel_rfl
theorem ze27 : zeroL Try.prog 27 = some [.int .i64 0, .bool false, .int .u8 0, .int .u32 0, .int .u32 0, .int .u8 0, .int .u8 0, .int .u8 0, .int .u8 0, .int .u8 0, .int .u8 0, .int .i64 0, .bool false, .int .u8 0, .int .u32 0, .int .u32 0, .int .u8 0, .int .u8 0, .int .u8 0, .int .u8 0, .int .u8 0, .int .u8 0, .int .i64 0, .bool false, .int .u8 0, .int .u32 0, .int .u32 0, .int .u8 0, .int .u8 0, .int .u8 0, .int .u8 0, .int .u8 0, .int .u8 0, .int .i64 0, .bool false, .int .u8 0, .int .u32 0, .int .u32 0, .int .u8 0, .int .u8 0, .int .u8 0, .int .u8 0, .int .u8 0, .int .u8 0] := by kernel_rfl

end C8
open C8

theorem eqM_at {fs ms : List MP} (h : ∀ (i : Nat) (f : MP), fs[i]? = some f → ms[i]? = some { f with ix := ((i + 1 : Nat) : Int) }) : ∀ (i : Nat) (q r : MP), fs[i]? = some q → ms[i]? = some r → eqM q r = true := fun i q r hq hr => by
  have := h i q hq
  rw [hr] at this
  obtain rfl := Option.some.inj this
  simp [eqM]
theorem eqM_same {xs : List MP} : ∀ (i : Nat) (q r : MP), xs[i]? = some q → xs[i]? = some r → eqM q r = true := fun i q r hq hr => by
  rw [hq] at hr
  obtain rfl := Option.some.inj hr
  exact eqM_self q
theorem RM.four {w : World} {b : Nat} {fs : List MP} {T : TypeId} {fr : Nat × Nat} (h : w.heap[b]? = some (.cells (fs.flatMap MP.cells).toArray T fr)) (h4 : fs.length = 4) (ok : ∀ x ∈ fs, x.ok) : RM w (some ⟨b, 0, none⟩) 4 4 fs := by
  have := RM.own (junk := []) (xs := fs) (cap := 4) (by rw [List.append_nil]; exact h) ⟨by omega, by decide⟩ ok
  rwa [h4] at this

set_option maxRecDepth 100000 in
theorem c_FnMbrBack (w : World) (A : Option Addr) (m c : Nat) (qs : List MP) (hq : RM w A m c qs) (x : Int) (hx : 0 ≤ x ∧ x ≤ 255) : Calls Try.prog 5 #[.slice A m c, .int .u8 x] w (Ret fun v w' => v = .bool true ∧ Fr [] w w') := by
  refine enter (fun ρ => ρ 4) Try.func5 rfl rfl rfl (res1 rfl) ?_
  have H := SH.nil w
  have hqc := hq.cap
  have hmx : maxLen = 9223372036854775807 := by decide
  refine sq ?_
  refine rg ?_
  refine asg (v := .bool _) rfl rfl ?_
  refine nl ?_
  refine then_n ?_
  refine sq ?_
  refine sq ?_
  refine rg ?_
  refine mv (v := .slice _ _ _) rfl rfl ?_
  refine lnS rfl Try.underlying22 rfl ?_
  refine gtr rfl rfl rfl ?_
  refine nl ?_
  refine then_n ?_
  first | refine cd rfl (fun hc1 => ?_) (fun hc1 => ?_) | refine cn rfl (fun hc1 => ?_) (fun hc1 => ?_)   -- test 1
  · refine sq ?_
    refine rg ?_
    refine asg (v := .bool _) rfl rfl ?_
    refine nl ?_
    refine then_n ?_
    refine rt ?_
    refine then_r ?_
    refine fin_r ?_
    exact ⟨rfl, H.fr⟩
  · refine sk ?_
    refine then_n ?_
    refine sq ?_
    refine rg ?_
    refine mv (v := .slice _ _ _) rfl rfl ?_
    refine cl ca6 (c_mbrList _ _ _ _ _ hq) rfl ?_
    rintro _ w1 ⟨bl, cpl, xs, rfl, hxs, hxo, hbl, ⟨jl, hol⟩, hcl, hcm, F⟩
    replace H := H.new F hbl hol; clear F hol
    have hfo : ∀ p ∈ arr4 xs xs.length, p.ok := arr4_ok hxo
    have hf4 : (arr4 xs xs.length).length = 4 := arr4_len (Nat.le_refl _) (by omega)
    generalize hF : arr4 xs xs.length = fs at hfo hf4
    refine mv (v := .tuple _) rfl rfl ?_
    refine xt rfl rfl rfl ?_
    refine xt rfl rfl rfl ?_
    have hfc : (fs.flatMap MP.cells).length = 44 := by rw [flat_len MP.cells_len, hf4]
    refine al H ze27 rfl ?_
    clear H; intro b1 w2 hb1 H _
    refine asg (v := .slice _ _ _) rfl rfl ?_
    refine sa (cs' := fs.flatMap MP.cells) H rfl rfl ag27_44 hfc (List.all_eq_true.2 mp_one) (by decide) (by omega) (List.append_nil _) ?_
    clear H; intro w33 H _
    refine nl ?_
    refine then_n ?_
    refine sq ?_
    refine rg ?_
    refine mv (v := .int .u8 _) rfl rfl ?_
    refine cl ca7 (c_partDisk _ 4 512 _ hx (by decide) (by decide)) rfl ?_
    rintro _ w3 ⟨b2, ds, rfl, hdl, hb2, ho2, F⟩
    replace H := H.new F hb2 ho2; clear F ho2
    refine mv (v := .slice _ _ _) rfl rfl ?_
    refine cl ca12 (c_MbrWrite _ _ (4 * 512) (4 * 512) ds (RB.allm H hdl) ⟨by omega, by omega⟩ (some ⟨bl, 0, none⟩) xs.length cpl xs (RM.own (H.look (b := bl)) ⟨hcl, hcm⟩ hxo) (by omega)) rfl ?_
    rintro _ w4 ⟨b5, c5, junk5, fr5, rfl, hb5, hc5, ho5, F⟩
    rw [hF] at ho5
    replace H := H.new F hb5 ho5; clear F ho5
    have hml : (mbrB ds fs).length = 4 * 512 := by rw [mbrB_len hf4 (by omega), hdl]
    have hsg : sigB (mbrB ds fs) = true := sigB_mbr hf4 (by omega)
    have hfl : flagsB (mbrB ds fs) := mbr_flags hf4 (by omega)
    have hmp : ∀ (i : Nat) (f : MP), fs[i]? = some f → (mpsOf (mbrB ds fs))[i]? = some { f with ix := ((i + 1 : Nat) : Int) } := by
      have := mps_mbr (r := []) hf4 (by omega) hfo (ds := ds)
      rwa [List.append_nil] at this
    refine mv (v := .tuple _) rfl rfl ?_
    refine xt rfl rfl rfl ?_
    refine xt rfl rfl rfl ?_
    refine asg (v := .slice _ _ _) rfl rfl ?_
    refine asg (v := .bool _) rfl rfl ?_
    refine nl ?_
    refine then_n ?_
    refine sq ?_
    refine rg ?_
    refine mv (v := .slice _ _ _) rfl rfl ?_
    refine cl ca9 (c_MbrRead_yes _ _ (4 * 512) c5 (mbrB ds fs) (by have := RB.pre (b := b5) (bs := mbrB ds fs) H; rwa [hml] at this) ⟨by omega, by omega⟩ (flags_take hfl) ((sig_take _).trans hsg)) rfl ?_
    rintro _ w5 ⟨A2, cap2, u2, rfl, hM, F⟩
    replace H := H.keep F; clear F
    refine mv (v := .tuple _) rfl rfl ?_
    refine xt rfl rfl rfl ?_
    refine xt rfl rfl rfl ?_
    refine xt rfl rfl rfl ?_
    refine asg (v := .slice _ _ _) rfl rfl ?_
    refine asg (v := .string _) rfl rfl ?_
    refine asg (v := .bool _) rfl rfl ?_
    refine nl ?_
    refine then_n ?_
    refine sq ?_
    refine sq ?_
    refine rg ?_
    refine mv (v := .bool _) rfl rfl ?_
    refine unot rfl rfl ?_
    refine mv (v := .bool _) rfl rfl ?_
    first | refine spL (t := 37) (b := false) rfl ?_ | refine spF (t := 37) rfl rfl ?_   -- guard 1
    refine gy rfl ?_
    refine mv (v := .bool _) rfl rfl ?_
    refine gy rfl ?_
    refine unot rfl rfl ?_
    refine pkF (v := .bool _) rfl rfl rfl ?_
    refine mv (v := .bool _) rfl rfl ?_
    first | refine spL (t := 41) (b := false) rfl ?_ | refine spF (t := 41) rfl rfl ?_   -- guard 2
    refine gy rfl ?_
    refine mv (v := .slice _ _ _) rfl rfl ?_
    refine gy rfl ?_
    refine lnS rfl Try.underlying22 rfl ?_
    refine gy rfl ?_
    refine neq rfl rfl rfl ?_
    refine pkF (v := .bool _) rfl rfl rfl ?_
    refine nl ?_
    refine then_n ?_
    first | refine cF rfl (fun h => h rfl) ?_ | refine cbF rfl (fun h => h rfl) ?_   -- test 2
    refine sk ?_
    refine then_n ?_
    refine sq ?_
    refine sq ?_
    refine rg ?_
    rw [mpsOf_take] at hM
    obtain ⟨ad, rfl, _⟩ := hM.at' 0 (.int .i64 ((1 : Nat) : Int)) rfl
    refine mv (v := .slice _ _ _) rfl rfl ?_
    refine lnS rfl Try.underlying22 rfl ?_
    refine mv (v := .int .i64 _) rfl rfl ?_
    refine nl ?_
    refine then_n ?_
    refine bk ?_
    have F0 := H.fr; have hfb := H.look (b := b1); have hxb := H.look (b := bl); clear H
    refine lpM (α := Nat) [4, 12, 13, 48, 49, 50, 51, 52, 53, 54, 55, 56, 57, 58, 59] (fun i => [(48, .int .i64 (i : Int))]) (fun i w' => i ≤ 4 ∧ SH w5 [] w' [⟨b1, .cells (fs.flatMap MP.cells).toArray 27 (0, 0), false⟩, ⟨bl, .cells (xs.flatMap MP.cells ++ jl).toArray 26 (0, 0), false⟩]) (fun i => 4 - i) 0 ?_ (fC (by first | rfl | exact congrArg (Value.int _) (by first | omega | assumption | (symm; assumption) | (simp; done) | (simp; omega)) | exact congrArg (fun n => Value.slice _ n _) (by first | simp; done | simp; omega)) (fN _)) ?_   -- loop 1
    · exact ⟨by omega, SH.ro2 hfb hxb⟩
    · rintro i ρx w6 ⟨hi, H⟩
      refine sq ?_
      refine rg ?_
      refine lss rfl rfl rfl ?_
      refine nl ?_
      refine then_n ?_
      refine sq ?_
      first | refine cd rfl (fun hc3 => ?_) (fun hc3 => ?_) | refine cn rfl (fun hc3 => ?_) (fun hc3 => ?_)   -- test 3
      · obtain ⟨f, hf⟩ : ∃ f, fs[i]? = some f := ⟨_, List.getElem?_eq_getElem (by omega)⟩
        refine sk ?_
        refine then_n ?_
        refine sq ?_
        refine bk ?_
        refine sq ?_
        refine rg ?_
        refine mv (v := .int .i64 _) rfl rfl ?_
        refine iBN (ad.add (i * 11)) rfl rfl Try.underlying22 sz26_11 (by omega) (by simp) rfl ?_
        refine lw (vs := ({ f with ix := ((i + 1 : Nat) : Int) } : MP).cells) rfl ag26_11 rfl (fun j v h => H.fr.cell (hM.elem (hmp i f hf) j v h) (by simp)) rfl ?_
        refine al H ze26 rfl ?_
        clear H; intro b3 w7 hb3 H _
        refine asg (v := .int .i64 _) rfl rfl ?_
        refine sa (cs' := ({ f with ix := ((i + 1 : Nat) : Int) } : MP).cells) H rfl rfl ag26_11 rfl rfl (by decide) (by omega) rfl ?_
        clear H; intro w35 H _
        refine nl ?_
        refine then_n ?_
        refine sq ?_
        refine dr (by kernel_rfl) ?_   -- region 11
        have H := H.drew
        refine holdH H [] ?_
        refine tk (i := 0) rfl (by kernel_rfl) rfl H (fun w' H => r_la (vs := ({ f with ix := ((i + 1 : Nat) : Int) } : MP).cells) H rfl ag26_11 rfl rfl) ?_
        refine tk (i := 1) rfl (by kernel_rfl) rfl H (fun w' H => r_mv (v := .int .i64 _) rfl) ?_
        first | refine tk (i := 2) rfl (by kernel_rfl) rfl H (fun w' H => r_iy rfl rfl Try.underlying27 sz26_11 (by omega)) ?_ | refine tk (i := 2) rfl (by kernel_rfl) rfl H (fun w' H => r_iyB rfl rfl Try.underlying27 sz26_11 (by omega)) ?_
        refine tk (i := 3) rfl (by kernel_rfl) rfl H (fun w' H => r_la (vs := f.cells) H rfl ag26_11 (MP.cells_len f) (by rw [show 0 + (i : Int).toNat * 11 = i * 11 by omega]; exact flat_get MP.cells_len fs i f hf)) ?_
        refine fk (i := 4) (by kernel_rfl) rfl rfl rfl ?_
        refine cl ca11 (c_sameMbr _ { f with ix := ((i + 1 : Nat) : Int) } f) rfl ?_
        rintro v w8 ⟨hv, F⟩
        rw [eqM_ix] at hv; subst hv
        replace H := H.keep F; clear F
        refine nl ?_
        refine then_n ?_
        refine ⟨H, ?_⟩
        refine tk (i := 5) rfl (by kernel_rfl) rfl H (fun w' H => r_unot rfl) ?_
        refine da (by kernel_rfl) ?_
        refine then_n ?_
        first | refine cF rfl rfl ?_ | refine cbF rfl rfl ?_   -- test 4
        refine sk ?_
        refine in_n ?_
        refine then_n ?_
        refine rg ?_
        refine add rfl rfl (by first | exact w_i64 (by omega) | exact w_i64 (rng_i64 _) | rfl) rfl ?_
        refine mv (v := .int .i64 _) rfl rfl ?_
        refine nl ?_
        refine loop_n ?_
        exact ⟨i + 1, (by (try dsimp only); omega), ⟨by omega, H.sub (by repeat (first | exact List.Sublist.refl _ | exact List.nil_sublist _ | apply List.Sublist.cons_cons | apply List.Sublist.cons))⟩, (fC (by first | rfl | exact congrArg (Value.int _) (by first | omega | assumption | (symm; assumption) | (simp; done) | (simp; omega)) | exact congrArg (fun n => Value.slice _ n _) (by first | simp; done | simp; omega)) (fN _)), (by repeat (first | exact Agree.setL rfl Agree.mask | exact Agree.self _ _ | refine Agree.upd rfl ?_ | refine Agree.setL rfl ?_ | refine Agree.mask2 rfl ?_))⟩
      · refine ex ?_
        refine then_e ?_
        refine loop_e ?_
        refine in_hit rfl ?_
        refine then_n ?_
        refine sq ?_
        refine rg ?_
        have F1 := H.fr
        refine slY rfl Try.underlying27 sz26_11 (by first | trivial | omega | (simp; omega)) rfl ?_
        refine mv (v := .slice _ _ _) rfl rfl ?_
        refine cl ca14 (c_MbrEqual _ (some ⟨b1, 0, none⟩) (some ad) 4 4 cap2 fs (mpsOf (mbrB ds fs)) (RM.four (H.look (b := b1)) hf4 hfo) (hM.keep H.fr) (by omega) (eqM_at hmp)) rfl ?_
        rintro _ w9 ⟨rfl, F⟩
        replace H := H.keep F; clear F
        refine mv (v := .bool _) rfl rfl ?_
        first | refine spL (t := 63) (b := true) rfl ?_ | refine spT (t := 63) rfl rfl ?_   -- guard 3
        refine gy rfl ?_
        refine mv (v := .slice _ _ _) rfl rfl ?_
        refine gy rfl ?_
        refine mv (v := .slice _ _ _) rfl rfl ?_
        refine gy rfl ?_
        refine cl ca14 (c_MbrEqual _ (some ⟨bl, 0, none⟩) (some ⟨bl, 0, none⟩) xs.length cpl cpl xs xs (RM.own (H.look (b := bl)) ⟨hcl, hcm⟩ hxo) (RM.own (H.look (b := bl)) ⟨hcl, hcm⟩ hxo) (by omega) eqM_same) rfl ?_
        rintro _ w10 ⟨rfl, F⟩
        replace H := H.keep F; clear F
        refine pkT (v := .bool _) rfl rfl rfl ?_
        refine mv (v := .bool _) rfl rfl ?_
        first | refine spL (t := 68) (b := true) rfl ?_ | refine spT (t := 68) rfl rfl ?_   -- guard 4
        refine gy rfl ?_
        refine cl ca10 (c_partAwake _) rfl ?_
        rintro _ w11 ⟨rfl, F⟩
        replace H := H.keep F; clear F
        refine pkT (v := .bool _) rfl rfl rfl ?_
        refine asg (v := .bool _) rfl rfl ?_
        refine nl ?_
        refine then_n ?_
        refine rt ?_
        refine fin_r ?_
        exact ⟨rfl, F0.trans H.fr⟩

end Go.Proofs.Ytdoiddkogigppaa.X
