/- Walks of functions, printed by a program of this claim. -/
import Derived.Test.YtdoiddkogigppaaA13
import Derived.Test.YtdoiddkogigppaaEqRows
namespace Go.Proofs.Ytdoiddkogigppaa.X
set_option linter.unusedVariables false
set_option linter.unusedSimpArgs false
open Go Go.RowKit

namespace A14
theorem ag24_6 : aggB Try.prog 24 6 = true := by kernel_rfl
theorem ag26_11 : aggB Try.prog 26 11 = true := by kernel_rfl
theorem ag27_44 : aggB Try.prog 27 44 = true := by kernel_rfl
theorem ca10 : callable Try.prog 10 = true := by kernel_rfl
theorem ca11 : callable Try.prog 11 = true := by kernel_rfl
theorem ca6 : callable Try.prog 6 = true := by kernel_rfl
theorem ca7 : callable Try.prog 7 = true := by kernel_rfl
theorem ca8 : callable Try.prog 8 = true := by kernel_rfl
theorem ca9 : callable Try.prog 9 = true := by kernel_rfl
theorem eg24 : Try.prog.eqGuardType Try.prog.depth 24 = false := by kernel_rfl
theorem fo26_5 : fieldOff Try.prog 26 5 = some 5 := by kernel_rfl
theorem sc5 : scalarB Try.prog 5 = true := by kernel_rfl
theorem sz26_11 : sizeB Try.prog 26 11 = true := by kernel_rfl
theorem sz5_1 : sizeB Try.prog 5 1 = true := by kernel_rfl
theorem ze26 : zeroL Try.prog 26 = some [.int .i64 0, .bool false, .int .u8 0, .int .u32 0, .int .u32 0, .int .u8 0, .int .u8 0, .int .u8 0, .int .u8 0, .int .u8 0, .int .u8 0] := by kernel_rfl
theorem ze27 : zeroL Try.prog 27 = some [.int .i64 0, .bool false, .int .u8 0, .int .u32 0, .int .u32 0, .int .u8 0, .int .u8 0, .int .u8 0, .int .u8 0, .int .u8 0, .int .u8 0, .int .i64 0, .bool false, .int .u8 0, .int .u32 0, .int .u32 0, .int .u8 0, .int .u8 0, .int .u8 0, .int .u8 0, .int .u8 0, .int .u8 0, .int .i64 0, .bool false, .int .u8 0, .int .u32 0, .int .u32 0, .int .u8 0, .int .u8 0, .int .u8 0, .int .u8 0, .int .u8 0, .int .u8 0, .int .i64 0, .bool false, .int .u8 0, .int .u32 0, .int .u32 0, .int .u8 0, .int .u8 0, .int .u8 0, .int .u8 0, .int .u8 0, .int .u8 0] := by kernel_rfl

end A14
open A14

theorem arr4_ok {xs : List MP} (h : ∀ x ∈ xs, x.ok) : ∀ p ∈ arr4 xs xs.length, p.ok := by
  intro p hp
  unfold arr4 at hp
  rcases List.mem_append.1 hp with hp | hp
  · exact h p (List.mem_of_mem_take hp)
  · rw [List.eq_of_mem_replicate hp]; exact MP.zero_ok

set_option maxRecDepth 100000 in
theorem c_FnMbrReads (w : World) (A : Option Addr) (m c : Nat) (qs : List MP) (hq : RM w A m c qs) (x : Int) (hx : 0 ≤ x ∧ x ≤ 255) (sp : Bool) : Calls Try.prog 3 #[.slice A m c, .int .u8 x, .bool sp] w (Ret fun v w' => v = .bool true ∧ Fr [] w w') := by
  refine enter (fun ρ => ρ 6) Try.func3 rfl rfl rfl (res1 rfl) ?_
  have H := SH.nil w
  have hqc := hq.cap
  have hmx : maxLen = 9223372036854775807 := by decide
  refine sq ?_
  refine rg ?_
  refine asg (v := .bool _) rfl rfl ?_
  refine nl ?_
  refine then_n ?_
  refine sq ?_
  refine sq ?_
  refine rg ?_
  refine mv (v := .slice _ _ _) rfl rfl ?_
  refine lnS rfl Try.underlying22 rfl ?_
  refine gtr rfl rfl rfl ?_
  refine nl ?_
  refine then_n ?_
  first | refine cd rfl (fun hc1 => ?_) (fun hc1 => ?_) | refine cn rfl (fun hc1 => ?_) (fun hc1 => ?_)   -- test 1
  · refine sq ?_
    refine rg ?_
    refine asg (v := .bool _) rfl rfl ?_
    refine nl ?_
    refine then_n ?_
    refine rt ?_
    refine then_r ?_
    refine fin_r ?_
    exact ⟨rfl, H.fr⟩
  · refine sk ?_
    refine then_n ?_
    refine sq ?_
    refine rg ?_
    refine mv (v := .slice _ _ _) rfl rfl ?_
    refine cl ca6 (c_mbrList _ _ _ _ _ hq) rfl ?_
    rintro _ w1 ⟨bl, cpl, xs, rfl, hxs, hxo, hbl, ⟨jl, hol⟩, hcl, hcm, F⟩
    replace H := H.new F hbl hol; clear F hol
    have hfo : ∀ p ∈ arr4 xs xs.length, p.ok := arr4_ok hxo
    have hf4 : (arr4 xs xs.length).length = 4 := arr4_len (Nat.le_refl _) (by omega)
    generalize hF : arr4 xs xs.length = fs at hfo hf4
    refine mv (v := .tuple _) rfl rfl ?_
    refine xt rfl rfl rfl ?_
    refine xt rfl rfl rfl ?_
    have hfc : (fs.flatMap MP.cells).length = 44 := by rw [flat_len MP.cells_len, hf4]
    refine al H ze27 rfl ?_
    clear H; intro b1 w2 hb1 H _
    refine asg (v := .slice _ _ _) rfl rfl ?_
    refine sa (cs' := fs.flatMap MP.cells) H rfl rfl ag27_44 hfc (List.all_eq_true.2 mp_one) (by decide) (by omega) (List.append_nil _) ?_
    clear H; intro w33 H _
    refine nl ?_
    refine then_n ?_
    refine sq ?_
    refine rg ?_
    refine mv (v := .int .u8 _) rfl rfl ?_
    refine cl ca7 (c_partDisk _ 4 512 _ hx (by decide) (by decide)) rfl ?_
    rintro _ w3 ⟨b2, ds, rfl, hdl, hb2, ho2, F⟩
    replace H := H.new F hb2 ho2; clear F ho2
    refine asg (v := .slice _ _ _) rfl rfl ?_
    refine nl ?_
    refine then_n ?_
    refine sq ?_
    refine dr (by kernel_rfl) ?_   -- region 5
    have H := H.drew
    refine holdH H [3] ?_
    refine tk (i := 2) rfl (by kernel_rfl) rfl H (fun w' H => r_la (vs := fs.flatMap MP.cells) H rfl ag27_44 hfc (by rw [List.drop_zero, List.take_of_length_le (by omega)])) ?_
    refine fk (i := 0) (by kernel_rfl) rfl rfl rfl ?_
    refine mv (v := .slice _ _ _) rfl rfl ?_
    refine nl ?_
    refine then_n ?_
    refine ⟨H, ?_⟩
    refine tk (i := 1) rfl (by kernel_rfl) rfl H (fun w' H => r_slh rfl rfl Try.underlying30 sz5_1 (by first | trivial | omega | (simp; omega))) ?_
    refine fb (i := 3) (by kernel_rfl) rfl rfl rfl ?_
    refine cl ca8 (c_mbrEncode _ _ _ _ _ ds fs H.look (by omega) (by decide) (by decide) hf4 hfo) rfl ?_
    rintro _ w4 ⟨rfl, hlen, F, hnew⟩
    replace H := H.put F hnew; clear F hnew
    have hml : (mbrB ds fs).length = 4 * 512 := by omega
    refine nl ?_
    refine then_n ?_
    refine dn (by kernel_rfl) ?_
    refine then_n ?_
    refine ctM (α := List UInt8) [32, 33, 34, 35, 36, 37, 38, 39, 40, 41, 42, 43] (fun es => []) (fun es w' => SH w [] w' [⟨b2, .cells (Bs es).toArray 5 (0, 0), true⟩, ⟨b1, .cells (fs.flatMap MP.cells).toArray 27 (0, 0), true⟩] ∧ es.length = 4 * 512 ∧ es.take 510 = (mbrB ds fs).take 510) ?_ ?_   -- cut
    · refine sq ?_
      refine rg ?_
      refine mv (v := .bool _) rfl rfl ?_
      refine nl ?_
      refine then_n ?_
      first | refine cd rfl (fun hc2 => ?_) (fun hc2 => ?_) | refine cn rfl (fun hc2 => ?_) (fun hc2 => ?_)   -- test 2
      · refine rg ?_
        refine mv (v := .slice _ _ _) rfl rfl ?_
        refine mv (v := .int .u8 _) rfl rfl ?_
        refine cvi rfl rfl Try.underlying3 (by first | exact w_i64 (by omega) | exact w_i64 (rng_i64 _) | rfl) rfl ?_
        refine rem rfl rfl (by omega) (by omega) rfl rfl ?_
        refine add rfl rfl (by first | exact w_i64 (by omega) | exact w_i64 (rng_i64 _) | rfl) rfl ?_
        first | refine ia rfl rfl Try.underlying30 sz5_1 (by omega) rfl ?_ | refine iA rfl rfl Try.underlying30 sz5_1 (by omega) rfl ?_
        first | (refine ldb H rfl sc5 (by omega) rfl ?_; intro hu1) | refine ld H rfl sc5 rfl rfl ?_ | refine lc rfl (by assumption) sc5 rfl ?_
        refine mv (v := .int .u8 _) rfl rfl ?_
        refine add rfl rfl (by first | exact w_u8 (by omega) | exact w_u8 (rng_u8 _) | exact m_u8 _) rfl ?_
        refine bxor rfl rfl rfl rfl ?_
        first | refine ia rfl rfl Try.underlying30 sz5_1 (by omega) rfl ?_ | refine iA rfl rfl Try.underlying30 sz5_1 (by omega) rfl ?_
        refine stb H rfl rfl sc5 (xor_u8 _ _) (by omega) (by omega) ?_
        clear H; intro w34 H _
        refine nl ?_
        refine then_n ?_
        exact ⟨_, ⟨H.sub (by repeat (first | exact List.Sublist.refl _ | exact List.nil_sublist _ | apply List.Sublist.cons_cons | apply List.Sublist.cons)), by rw [List.length_set]; exact hml, by exact List.take_set_of_le (by omega)⟩, (fN _), (by repeat (first | exact Agree.setL rfl Agree.mask | exact Agree.self _ _ | refine Agree.upd rfl ?_ | refine Agree.setL rfl ?_ | refine Agree.mask2 rfl ?_))⟩
      · refine sk ?_
        refine then_n ?_
        exact ⟨_, ⟨H.sub (by repeat (first | exact List.Sublist.refl _ | exact List.nil_sublist _ | apply List.Sublist.cons_cons | apply List.Sublist.cons)), hml, rfl⟩, (fN _), (by repeat (first | exact Agree.setL rfl Agree.mask | exact Agree.self _ _ | refine Agree.upd rfl ?_ | refine Agree.setL rfl ?_ | refine Agree.mask2 rfl ?_))⟩
    · rintro es ρx w5 ⟨H, hel, het⟩
      have hfl : flagsB es := flags_pre het (mbr_flags hf4 (by omega))
      have hsa := sig_at (ds := es) (by omega)
      have hmp : ∀ (i : Nat) (f : MP), fs[i]? = some f → (mpsOf es)[i]? = some { f with ix := ((i + 1 : Nat) : Int) } := fun i f hf => by
        have hi : i < 4 := by have := (List.getElem?_eq_some_iff.1 hf).1; omega
        rw [mpsOf_get hi, mpAt_pre (by omega) het, mpAt_mbr (i + 1) hf hf4 (by omega) (hfo f (List.mem_of_getElem? hf))]
      refine sq ?_
      refine sq ?_
      refine rg ?_
      refine mv (v := .slice _ _ _) rfl rfl ?_
      first | refine ia rfl rfl Try.underlying30 sz5_1 (by omega) rfl ?_ | refine iA rfl rfl Try.underlying30 sz5_1 (by omega) rfl ?_
      first | (refine ldb H rfl sc5 (by omega) rfl ?_; intro hu2) | refine ld H rfl sc5 rfl rfl ?_ | refine lc rfl (by assumption) sc5 rfl ?_
      refine neq rfl rfl rfl ?_
      refine mv (v := .bool _) rfl rfl ?_
      first | refine spd (t := 48) rfl (fun hg1 => ?_) (fun hg1 => ?_) | refine sp (t := 48) rfl (fun hg1 => ?_) (fun hg1 => ?_)   -- guard 1
      · have hs : sigB (es.take 512) = false := by
          rw [sig_take, hsa]; exact decide_eq_false (fun h => hg1 h.1)
        refine gn rfl rfl ?_
        refine gn rfl rfl ?_
        refine gn rfl rfl ?_
        refine gn rfl rfl ?_
        refine pkT (v := .bool _) rfl rfl rfl ?_
        refine nl ?_
        refine then_n ?_
        refine cbT rfl rfl ?_
        refine sq ?_
        refine rg ?_
        refine mv (v := .slice _ _ _) rfl rfl ?_
        refine cl ca9 (c_MbrRead_no _ _ (4 * 512) (4 * 512) es (RB.allm H hel) ⟨by omega, by omega⟩ (flags_take hfl) hs) rfl ?_
        rintro _ w6 ⟨rfl, F⟩
        replace H := H.keep F; clear F
        refine mv (v := .tuple _) rfl rfl ?_
        refine xt rfl rfl rfl ?_
        refine xt rfl rfl rfl ?_
        refine xt rfl rfl rfl ?_
        refine asg (v := .slice _ _ _) rfl rfl ?_
        refine asg (v := .string _) rfl rfl ?_
        refine asg (v := .bool _) rfl rfl ?_
        refine nl ?_
        refine then_n ?_
        refine sq ?_
        refine rg ?_
        refine mv (v := .bool _) rfl rfl ?_
        refine unot rfl rfl ?_
        refine mv (v := .bool _) rfl rfl ?_
        first | refine spL (t := 62) (b := true) rfl ?_ | refine spT (t := 62) rfl rfl ?_   -- guard 2
        refine gy rfl ?_
        refine cl ca10 (c_partAwake _) rfl ?_
        rintro _ w7 ⟨rfl, F⟩
        replace H := H.keep F; clear F
        refine pkT (v := .bool _) rfl rfl rfl ?_
        refine asg (v := .bool _) rfl rfl ?_
        refine nl ?_
        refine then_n ?_
        refine rt ?_
        refine then_r ?_
        refine fin_r ?_
        exact ⟨rfl, H.fr⟩
      · refine gy rfl ?_
        refine mv (v := .slice _ _ _) rfl rfl ?_
        refine gy rfl ?_
        first | refine ia rfl rfl Try.underlying30 sz5_1 (by omega) rfl ?_ | refine iA rfl rfl Try.underlying30 sz5_1 (by omega) rfl ?_
        refine gy rfl ?_
        first | (refine ldb H rfl sc5 (by omega) rfl ?_; intro hu3) | refine ld H rfl sc5 rfl rfl ?_ | refine lc rfl (by assumption) sc5 rfl ?_
        refine gy rfl ?_
        refine neq rfl rfl rfl ?_
        refine pkF (v := .bool _) rfl rfl rfl ?_
        refine nl ?_
        refine then_n ?_
        first | refine cd rfl (fun hc3 => ?_) (fun hc3 => ?_) | refine cn rfl (fun hc3 => ?_) (fun hc3 => ?_)   -- test 3
        · have hs : sigB (es.take 512) = false := by
            rw [sig_take, hsa]; exact decide_eq_false (fun h => hc3 h.2)
          refine sq ?_
          refine rg ?_
          refine mv (v := .slice _ _ _) rfl rfl ?_
          refine cl ca9 (c_MbrRead_no _ _ (4 * 512) (4 * 512) es (RB.allm H hel) ⟨by omega, by omega⟩ (flags_take hfl) hs) rfl ?_
          rintro _ w8 ⟨rfl, F⟩
          replace H := H.keep F; clear F
          refine mv (v := .tuple _) rfl rfl ?_
          refine xt rfl rfl rfl ?_
          refine xt rfl rfl rfl ?_
          refine xt rfl rfl rfl ?_
          refine asg (v := .slice _ _ _) rfl rfl ?_
          refine asg (v := .string _) rfl rfl ?_
          refine asg (v := .bool _) rfl rfl ?_
          refine nl ?_
          refine then_n ?_
          refine sq ?_
          refine rg ?_
          refine mv (v := .bool _) rfl rfl ?_
          refine unot rfl rfl ?_
          refine mv (v := .bool _) rfl rfl ?_
          first | refine spL (t := 62) (b := true) rfl ?_ | refine spT (t := 62) rfl rfl ?_   -- guard 3
          refine gy rfl ?_
          refine cl ca10 (c_partAwake _) rfl ?_
          rintro _ w9 ⟨rfl, F⟩
          replace H := H.keep F; clear F
          refine pkT (v := .bool _) rfl rfl rfl ?_
          refine asg (v := .bool _) rfl rfl ?_
          refine nl ?_
          refine then_n ?_
          refine rt ?_
          refine then_r ?_
          refine fin_r ?_
          exact ⟨rfl, H.fr⟩
        · have hs : sigB (es.take 512) = true := by
            rw [sig_take, hsa]; exact decide_eq_true ⟨Decidable.byContradiction hg1, Decidable.byContradiction hc3⟩
          refine sk ?_
          refine then_n ?_
          refine sq ?_
          refine rg ?_
          refine mv (v := .slice _ _ _) rfl rfl ?_
          refine cl ca9 (c_MbrRead_yes _ _ (4 * 512) (4 * 512) es (RB.allm H hel) ⟨by omega, by omega⟩ (flags_take hfl) hs) rfl ?_
          rintro _ w10 ⟨A2, cap2, u2, rfl, hM, F⟩
          replace H := H.keep F; clear F
          refine mv (v := .tuple _) rfl rfl ?_
          refine xt rfl rfl rfl ?_
          refine xt rfl rfl rfl ?_
          refine xt rfl rfl rfl ?_
          refine asg (v := .slice _ _ _) rfl rfl ?_
          refine asg (v := .string _) rfl rfl ?_
          refine asg (v := .bool _) rfl rfl ?_
          refine nl ?_
          refine then_n ?_
          refine sq ?_
          refine sq ?_
          refine rg ?_
          refine mv (v := .bool _) rfl rfl ?_
          refine unot rfl rfl ?_
          refine mv (v := .bool _) rfl rfl ?_
          first | refine spL (t := 73) (b := false) rfl ?_ | refine spF (t := 73) rfl rfl ?_   -- guard 4
          refine gy rfl ?_
          refine mv (v := .slice _ _ _) rfl rfl ?_
          refine gy rfl ?_
          refine lnS rfl Try.underlying22 rfl ?_
          refine gy rfl ?_
          refine neq rfl rfl rfl ?_
          refine pkF (v := .bool _) rfl rfl rfl ?_
          refine nl ?_
          refine then_n ?_
          first | refine cF rfl (by decide) ?_ | refine cbF rfl (by decide) ?_   -- test 4
          refine sk ?_
          refine then_n ?_
          refine sq ?_
          refine sq ?_
          refine rg ?_
          rw [mpsOf_take] at hM
          obtain ⟨ad, rfl, _⟩ := hM.at' 0 (.int .i64 ((1 : Nat) : Int)) rfl
          refine mv (v := .slice _ _ _) rfl rfl ?_
          refine lnS rfl Try.underlying22 rfl ?_
          refine mv (v := .int .i64 _) rfl rfl ?_
          refine nl ?_
          refine then_n ?_
          refine bk ?_
          have F0 := H.fr; have hfb := H.look (b := b1); clear H
          refine lpM (α := Nat) [6, 16, 17, 80, 81, 82, 83, 84, 85, 86, 87, 88, 89, 90, 91, 92, 93, 94, 95, 96, 97, 98, 99, 100] (fun i => [(80, .int .i64 (i : Int))]) (fun i w' => i ≤ 4 ∧ SH w10 [] w' [⟨b1, .cells (fs.flatMap MP.cells).toArray 27 (0, 0), false⟩]) (fun i => 4 - i) 0 ?_ (fC (by first | rfl | exact congrArg (Value.int _) (by first | omega | assumption | (symm; assumption) | (simp; done) | (simp; omega)) | exact congrArg (fun n => Value.slice _ n _) (by first | simp; done | simp; omega)) (fN _)) ?_   -- loop 1
          · exact ⟨by omega, SH.ro1 hfb⟩
          · rintro i ρx w11 ⟨hi, H⟩
            refine sq ?_
            refine rg ?_
            refine lss rfl rfl rfl ?_
            refine nl ?_
            refine then_n ?_
            refine sq ?_
            first | refine cd rfl (fun hc5 => ?_) (fun hc5 => ?_) | refine cn rfl (fun hc5 => ?_) (fun hc5 => ?_)   -- test 5
            · obtain ⟨f, hf⟩ : ∃ f, fs[i]? = some f := ⟨_, List.getElem?_eq_getElem (by omega)⟩
              refine sk ?_
              refine then_n ?_
              refine sq ?_
              refine bk ?_
              refine sq ?_
              refine rg ?_
              refine mv (v := .int .i64 _) rfl rfl ?_
              refine iBN (ad.add (i * 11)) rfl rfl Try.underlying22 sz26_11 (by omega) (by simp) rfl ?_
              refine lw (vs := ({ f with ix := ((i + 1 : Nat) : Int) } : MP).cells) rfl ag26_11 rfl (fun j v h => H.fr.cell (hM.elem (hmp i f hf) j v h) (by simp)) rfl ?_
              refine al H ze26 rfl ?_
              clear H; intro b3 w12 hb3 H _
              refine asg (v := .int .i64 _) rfl rfl ?_
              refine sa (cs' := ({ f with ix := ((i + 1 : Nat) : Int) } : MP).cells) H rfl rfl ag26_11 rfl rfl (by decide) (by omega) rfl ?_
              clear H; intro w35 H _
              refine nl ?_
              refine then_n ?_
              refine sq ?_
              refine dr (by kernel_rfl) ?_   -- region 17
              have H := H.drew
              refine holdH H [] ?_
              refine tk (i := 0) rfl (by kernel_rfl) rfl H (fun w' H => r_la (vs := ({ f with ix := ((i + 1 : Nat) : Int) } : MP).cells) H rfl ag26_11 rfl rfl) ?_
              refine tk (i := 1) rfl (by kernel_rfl) rfl H (fun w' H => r_mv (v := .int .i64 _) rfl) ?_
              first | refine tk (i := 2) rfl (by kernel_rfl) rfl H (fun w' H => r_iy rfl rfl Try.underlying27 sz26_11 (by omega)) ?_ | refine tk (i := 2) rfl (by kernel_rfl) rfl H (fun w' H => r_iyB rfl rfl Try.underlying27 sz26_11 (by omega)) ?_
              refine tk (i := 3) rfl (by kernel_rfl) rfl H (fun w' H => r_la (vs := f.cells) H rfl ag26_11 (MP.cells_len f) (by rw [show 0 + (i : Int).toNat * 11 = i * 11 by omega]; exact flat_get MP.cells_len fs i f hf)) ?_
              refine fk (i := 4) (by kernel_rfl) rfl rfl rfl ?_
              refine cl ca11 (c_sameMbr _ { f with ix := ((i + 1 : Nat) : Int) } f) rfl ?_
              rintro v w13 ⟨hv, F⟩
              rw [eqM_ix] at hv; subst hv
              replace H := H.keep F; clear F
              refine nl ?_
              refine then_n ?_
              refine ⟨H, ?_⟩
              refine tk (i := 5) rfl (by kernel_rfl) rfl H (fun w' H => r_unot rfl) ?_
              refine tk (i := 6) rfl (by kernel_rfl) rfl H (fun w' H => r_mv (v := .bool _) rfl) ?_
              first | refine spaL (t := 91) (b := false) rfl ?_ | refine spaF (t := 91) rfl rfl ?_   -- guard 5
              first | refine tkg (i := 7) rfl (by kernel_rfl) rfl H rfl (fun w' H => r_fa rfl fo26_5) ?_ | refine tkg (i := 7) rfl (by kernel_rfl) rfl H rfl (fun w' H => r_faG rfl fo26_5) ?_
              refine tkg (i := 8) rfl (by kernel_rfl) rfl H rfl (fun w' H => r_la (vs := [.int .u8 f.c0, .int .u8 f.c1, .int .u8 f.c2, .int .u8 f.c3, .int .u8 f.c4, .int .u8 f.c5]) H rfl ag24_6 rfl rfl) ?_
              refine tkg (i := 9) rfl (by kernel_rfl) rfl H rfl (fun w' H => r_mv (v := .int .i64 _) rfl) ?_
              first | refine tkg (i := 10) rfl (by kernel_rfl) rfl H rfl (fun w' H => r_iy rfl rfl Try.underlying27 sz26_11 (by omega)) ?_ | refine tkg (i := 10) rfl (by kernel_rfl) rfl H rfl (fun w' H => r_iyB rfl rfl Try.underlying27 sz26_11 (by omega)) ?_
              first | refine tkg (i := 11) rfl (by kernel_rfl) rfl H rfl (fun w' H => r_fa rfl fo26_5) ?_ | refine tkg (i := 11) rfl (by kernel_rfl) rfl H rfl (fun w' H => r_faG rfl fo26_5) ?_
              refine tkg (i := 12) rfl (by kernel_rfl) rfl H rfl (fun w' H => r_la (vs := [.int .u8 f.c0, .int .u8 f.c1, .int .u8 f.c2, .int .u8 f.c3, .int .u8 f.c4, .int .u8 f.c5]) H rfl ag24_6 rfl (by rw [show 0 + (i : Int).toNat * 11 + 5 = i * 11 + 5 by omega]; exact chs_at hf)) ?_
              refine tkg (i := 13) rfl (by kernel_rfl) rfl H rfl (fun w' H => r_neqAr (xs1 := [f.c0, f.c1, f.c2, f.c3, f.c4, f.c5]) (xs2 := [f.c0, f.c1, f.c2, f.c3, f.c4, f.c5]) rfl rfl eg24 Try.underlying24 Try.underlying5 sz5_1 sc5 rfl rfl) ?_
              refine tk (i := 14) rfl (by kernel_rfl) rfl H (fun w' H => r_pkF (v := .bool _) rfl rfl) ?_
              refine da (by kernel_rfl) ?_
              refine then_n ?_
              first | refine cF rfl (fun h => h rfl) ?_ | refine cbF rfl (fun h => h rfl) ?_   -- test 6
              refine sk ?_
              refine in_n ?_
              refine then_n ?_
              refine rg ?_
              refine add rfl rfl (by first | exact w_i64 (by omega) | exact w_i64 (rng_i64 _) | rfl) rfl ?_
              refine mv (v := .int .i64 _) rfl rfl ?_
              refine nl ?_
              refine loop_n ?_
              exact ⟨i + 1, (by (try dsimp only); omega), ⟨by omega, H.sub (by repeat (first | exact List.Sublist.refl _ | exact List.nil_sublist _ | apply List.Sublist.cons_cons | apply List.Sublist.cons))⟩, (fC (by first | rfl | exact congrArg (Value.int _) (by first | omega | assumption | (symm; assumption) | (simp; done) | (simp; omega)) | exact congrArg (fun n => Value.slice _ n _) (by first | simp; done | simp; omega)) (fN _)), (by repeat (first | exact Agree.setL rfl Agree.mask | exact Agree.self _ _ | refine Agree.upd rfl ?_ | refine Agree.setL rfl ?_ | refine Agree.mask2 rfl ?_))⟩
            · refine ex ?_
              refine then_e ?_
              refine loop_e ?_
              refine in_hit rfl ?_
              refine then_n ?_
              refine sq ?_
              refine rg ?_
              refine cl ca10 (c_partAwake _) rfl ?_
              rintro _ w14 ⟨rfl, F⟩
              replace H := H.keep F; clear F
              refine asg (v := .bool _) rfl rfl ?_
              refine nl ?_
              refine then_n ?_
              refine rt ?_
              refine fin_r ?_
              exact ⟨rfl, F0.trans H.fr⟩

end Go.Proofs.Ytdoiddkogigppaa.X
