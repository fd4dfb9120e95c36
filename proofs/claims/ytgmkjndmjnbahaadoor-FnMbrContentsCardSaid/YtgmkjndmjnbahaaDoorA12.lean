/- Walks of functions, printed by a program of this claim. -/
import Derived.Test.YtgmkjndmjnbahaaDoorA11
namespace Go.Proofs.YtgmkjndmjnbahaaDoor.X
set_option linter.unusedVariables false
set_option linter.unusedSimpArgs false
open Go Go.RowKit

namespace A12
theorem ca10 : callable Tryd.prog 10 = true := by kernel_rfl
theorem ca16 : callable Tryd.prog 16 = true := by kernel_rfl
theorem ca20 : callable Tryd.prog 20 = true := by kernel_rfl
theorem ca21 : callable Tryd.prog 21 = true := by kernel_rfl
theorem cc40 : Tryd.prog.concrete 40 = true := by kernel_rfl
theorem fo67_0 : fieldOff Tryd.prog 67 0 = some 0 := by kernel_rfl
theorem fo67_3 : fieldOff Tryd.prog 67 3 = some 3 := by kernel_rfl
theorem ri28 : rowInfo Tryd.prog 28 = some ([.int .i64 0, .bool false, .int .u8 0, .int .u32 0, .int .u32 0, .int .u8 0, .int .u8 0, .int .u8 0, .int .u8 0, .int .u8 0, .int .u8 0], 32) := by kernel_rfl
theorem sc42 : scalarB Tryd.prog 42 = true := by kernel_rfl
theorem sc65 : scalarB Tryd.prog 65 = true := by kernel_rfl
theorem sc9 : scalarB Tryd.prog 9 = true := by kernel_rfl
theorem sz28_11 : sizeB Tryd.prog 28 11 = true := by kernel_rfl
theorem sz42_1 : sizeB Tryd.prog 42 1 = true := by kernel_rfl
theorem ze28 : zeroL Tryd.prog 28 = some [.int .i64 0, .bool false, .int .u8 0, .int .u32 0, .int .u32 0, .int .u8 0, .int .u8 0, .int .u8 0, .int .u8 0, .int .u8 0, .int .u8 0] := by kernel_rfl

end A12
open A12

set_option maxRecDepth 100000 in
set_option maxHeartbeats 1000000 in
theorem c_tabUUID (w : World) (t : Nat) (y1 y2 y3 : Value) (uu : List UInt8) (ht : w.heap[t]? = some (.cells [y1, y2, y3, .string (str uu)].toArray 67 (0, 0))) : Calls Tryd.prog 21 #[.pointer (some ⟨t, 0, none⟩)] w (Ret fun v w' => v = .string (str uu) ∧ Fr [] w w') := by
  refine enter (fun ρ => ρ 2) Tryd.func21 rfl rfl rfl (res1 rfl) ?_
  have H := SH.ro1 ht
  refine sq ?_
  refine rg ?_
  refine asg (v := .string _) rfl rfl ?_
  refine nl ?_
  refine then_n ?_
  refine sq ?_
  refine rg ?_
  refine mv (v := .pointer _) rfl rfl ?_
  first | refine nc rfl rfl ?_ | refine nci rfl rfl ?_
  refine fa rfl fo67_3 rfl ?_
  first | refine ld H rfl sc9 rfl rfl ?_ | refine lc rfl (by first | assumption | exact H.fr.cell (by assumption) (by simp)) sc9 rfl ?_ | refine ld H rfl sc9 (by assumption) rfl ?_
  refine asg (v := .string _) rfl rfl ?_
  refine nl ?_
  refine then_n ?_
  refine rt ?_
  refine fin_r ?_
  exact ⟨rfl, H.fr⟩

set_option maxRecDepth 100000 in
set_option maxHeartbeats 1000000 in
theorem c_MbrRead_no (w : World) (A : Option Addr) (m c : Nat) (ds : List UInt8) (hR : RB w A m ds) (hl : 512 ≤ m ∧ m ≤ 100000000) (hf : flagsB (ds.take 512)) (hs : sigB (ds.take 512) = false) : Calls Tryd.prog 15 #[.slice A m c, .int .i64 512] w (Ret fun v w' => v = .tuple #[.slice none 0 0, .string ByteArray.empty, .bool false] ∧ Fr [] w w') := by
  refine enter (fun ρ => .tuple #[ρ 4, ρ 5, ρ 6]) Tryd.func15 rfl rfl rfl (res3 rfl) ?_
  have H := SH.nil w
  have hRl := hR.1
  refine sq ?_
  refine rg ?_
  refine asg (v := .slice _ _ _) rfl rfl ?_
  refine asg (v := .string _) rfl rfl ?_
  refine asg (v := .bool _) rfl rfl ?_
  refine nl ?_
  refine then_n ?_
  refine sq ?_
  refine rg ?_
  refine mv (v := .slice _ _ _) rfl rfl ?_
  refine cvBS rfl (by exact hR) Tryd.underlying23 Tryd.underlying5 Tryd.underlying9 rfl ?_
  refine cl ca10 (c_memoryOf _ _ (by omega)) rfl ?_
  rintro _ w1 ⟨bm, bd, cm, rfl, hcm, K⟩
  replace H := H.join K (by simp); simp only [List.cons_append, List.nil_append] at H; clear K
  refine mi (v := .pointer _) rfl cc40 rfl ?_
  refine mv (v := .int .i64 _) rfl rfl ?_
  refine mv (v := .int .i64 _) rfl rfl ?_
  refine cl ca16 (c_mbrRead _ bm bd cm _ _ _ _ _ ds _ H.look H.look ⟨by omega, by omega, by omega⟩ hf) rfl ?_
  rintro _ w2 ⟨a, e, rfl, he, F, hie, hM⟩
  refine mv (v := .tuple _) rfl rfl ?_
  refine xt rfl rfl rfl ?_
  refine xt rfl rfl rfl ?_
  refine asg (v := .pointer _) rfl rfl ?_
  first | refine asg (v := .nilIface) rfl rfl ?_ | refine asg (v := .iface _ _) rfl rfl ?_ | refine asg rfl rfl ?_
  refine nl ?_
  refine then_n ?_
  refine sq ?_
  refine sq ?_
  refine rg ?_
  first | refine mv (v := .nilIface) rfl rfl ?_ | refine mv (v := .iface _ _) rfl rfl ?_ | refine mv rfl rfl ?_
  first | refine neqI1 rfl Tryd.underlying48 rfl ?_ | refine neqI0 rfl Tryd.underlying48 rfl ?_ | refine neqIG rfl Tryd.underlying48 (by assumption) rfl ?_
  refine nl ?_
  refine then_n ?_
  first | refine cT rfl (hie.trans (by rw [hs]; rfl)) ?_ | refine cbT rfl (hie.trans (by rw [hs]; rfl)) ?_   -- test 1
  refine sq ?_
  refine rg ?_
  refine asg (v := .slice _ _ _) rfl rfl ?_
  refine asg (v := .string _) rfl rfl ?_
  refine asg (v := .bool _) rfl rfl ?_
  refine nl ?_
  refine then_n ?_
  refine rt ?_
  refine then_r ?_
  refine fin_r ?_
  exact ⟨rfl, H.fr.trans F⟩

set_option maxRecDepth 100000 in
set_option maxHeartbeats 1000000 in
theorem c_MbrRead_yes (w : World) (A : Option Addr) (m c : Nat) (ds : List UInt8) (hR : RB w A m ds) (hl : 512 ≤ m ∧ m ≤ 100000000) (hf : flagsB (ds.take 512)) (hs : sigB (ds.take 512) = true) : Calls Tryd.prog 15 #[.slice A m c, .int .i64 512] w (Ret fun v w' => ∃ A2 cap u, v = .tuple #[.slice A2 4 cap, .string (str u), .bool true] ∧ RM w' A2 4 cap (mpsOf (ds.take 512)) ∧ Fr [] w w') := by
  refine enter (fun ρ => .tuple #[ρ 4, ρ 5, ρ 6]) Tryd.func15 rfl rfl rfl (res3 rfl) ?_
  have H := SH.nil w
  have hRl := hR.1
  refine sq ?_
  refine rg ?_
  refine asg (v := .slice _ _ _) rfl rfl ?_
  refine asg (v := .string _) rfl rfl ?_
  refine asg (v := .bool _) rfl rfl ?_
  refine nl ?_
  refine then_n ?_
  refine sq ?_
  refine rg ?_
  refine mv (v := .slice _ _ _) rfl rfl ?_
  refine cvBS rfl (by exact hR) Tryd.underlying23 Tryd.underlying5 Tryd.underlying9 rfl ?_
  refine cl ca10 (c_memoryOf _ _ (by omega)) rfl ?_
  rintro _ w1 ⟨bm, bd, cm, rfl, hcm, K⟩
  replace H := H.join K (by simp); simp only [List.cons_append, List.nil_append] at H; clear K
  refine mi (v := .pointer _) rfl cc40 rfl ?_
  refine mv (v := .int .i64 _) rfl rfl ?_
  refine mv (v := .int .i64 _) rfl rfl ?_
  refine cl ca16 (c_mbrRead _ bm bd cm _ _ _ _ _ ds _ H.look H.look ⟨by omega, by omega, by omega⟩ hf) rfl ?_
  rintro _ w2 ⟨a, e, rfl, he, F, hie, hM⟩
  refine mv (v := .tuple _) rfl rfl ?_
  refine xt rfl rfl rfl ?_
  refine xt rfl rfl rfl ?_
  refine asg (v := .pointer _) rfl rfl ?_
  first | refine asg (v := .nilIface) rfl rfl ?_ | refine asg (v := .iface _ _) rfl rfl ?_ | refine asg rfl rfl ?_
  refine nl ?_
  refine then_n ?_
  refine sq ?_
  refine sq ?_
  refine rg ?_
  first | refine mv (v := .nilIface) rfl rfl ?_ | refine mv (v := .iface _ _) rfl rfl ?_ | refine mv rfl rfl ?_
  first | refine neqI1 rfl Tryd.underlying48 rfl ?_ | refine neqI0 rfl Tryd.underlying48 rfl ?_ | refine neqIG rfl Tryd.underlying48 (by assumption) rfl ?_
  refine nl ?_
  refine then_n ?_
  first | refine cF rfl (hie.trans (by rw [hs]; rfl)) ?_ | refine cbF rfl (hie.trans (by rw [hs]; rfl)) ?_   -- test 1
  refine sk ?_
  refine then_n ?_
  refine sq ?_
  refine sq ?_
  refine rg ?_
  obtain ⟨t, r, capP, jk, l, uu, hv, hll, hro, K⟩ := hM hs
  cases hv
  replace H := SH.back H.fr K
  clear K F he hie
  generalize hXd : ds.take 512 = X at hro hs
  have hXl : X.length = 512 := by rw [← hXd]; simp; omega
  have hmx : maxLen = 9223372036854775807 := by decide
  refine mv (v := .pointer _) rfl rfl ?_
  first | refine nc rfl rfl ?_ | refine nci rfl rfl ?_
  refine fa rfl fo67_0 rfl ?_
  first | refine ld H rfl sc65 rfl rfl ?_ | refine lc rfl (by first | assumption | exact H.fr.cell (by assumption) (by simp)) sc65 rfl ?_ | refine ld H rfl sc65 (by assumption) rfl ?_
  refine lnS rfl Tryd.underlying65 rfl ?_
  refine mv (v := .int .i64 _) rfl rfl ?_
  refine nl ?_
  refine then_n ?_
  refine bk ?_
  refine lpM (α := Nat × Option Addr × Nat) [4, 10, 28, 29, 30, 31, 32, 33, 34, 35, 36, 37] (fun (i, A2, cap) => [(4, .slice A2 i cap), (28, .int .i64 (i : Int))]) (fun (i, A2, cap) w' => i ≤ 4 ∧ OR 28 11 w [] w' (⟨t, .cells [.slice (some ⟨r, 0, none⟩) 4 capP, .int .i64 512, .int .i64 512, .string (str uu)].toArray 67 (0, 0), true⟩ :: ⟨r, .cells (ptrs l ++ jk).toArray 42 (0, 0), true⟩ :: ents 76 l) A2 i cap (((mpsOf X).take i).flatMap MP.cells)) (fun (i, A2, cap) => 4 - i) (0, none, 0) ?_ (fC (by first | rfl | exact congrArg (Value.int _) (by first | omega | assumption | (symm; assumption) | (simp; done) | (simp; omega)) | exact congrArg (fun n => Value.slice _ n _) (by first | omega | (simp; done) | (simp; omega))) (fC (by first | rfl | exact congrArg (Value.int _) (by first | omega | assumption | (symm; assumption) | (simp; done) | (simp; omega)) | exact congrArg (fun n => Value.slice _ n _) (by first | omega | (simp; done) | (simp; omega))) (fN _))) ?_   -- loop 1
  · exact ⟨by omega, OR.nil H⟩
  · rintro ⟨i, A2, cap⟩ ρx w3 ⟨hi, O⟩
    have H := O.sh
    refine sq ?_
    refine rg ?_
    refine lss rfl rfl rfl ?_
    refine nl ?_
    refine then_n ?_
    refine sq ?_
    first | refine cd rfl (fun hc2 => ?_) (fun hc2 => ?_) | refine cn rfl (fun hc2 => ?_) (fun hc2 => ?_)   -- test 2
    · obtain ⟨x, hx⟩ : ∃ x, l[i]? = some x := ⟨_, List.getElem?_eq_getElem (by omega)⟩
      obtain ⟨u, hxu⟩ := hro i x hx
      have hpt := H.ptr (l := l) (T := 76) (fun e he => by simp [he]) hx
      rw [hxu] at hpt
      refine sk ?_
      refine then_n ?_
      refine sq ?_
      refine bk ?_
      refine sq ?_
      refine rg ?_
      first | refine ia rfl rfl Tryd.underlying65 sz42_1 (by omega) rfl ?_ | refine iA rfl rfl Tryd.underlying65 sz42_1 (by omega) rfl ?_
      refine ld (v := .pointer (some ⟨x.1, 0, none⟩)) H rfl sc42 (row_ptr' hx (by omega)) rfl ?_
      refine asg (v := .pointer _) rfl rfl ?_
      refine nl ?_
      refine then_n ?_
      refine rg ?_
      refine mv (v := .slice _ _ _) rfl rfl ?_
      refine mv (v := .pointer _) rfl rfl ?_
      refine cl ca20 (c_mbrTold _ _ (mpAt X (446 + 16 * i) (i + 1)) _ _ _ hpt) rfl ?_
      rintro _ w4 ⟨rfl, F⟩
      replace H := H.keep F; replace O := O.keep F; clear F
      refine bsl (sz := 11) (out := (mpAt X (446 + 16 * i) (i + 1)).cells) H Tryd.underlying59 ze28 sz28_11 (by decide) (FS.agg (vs := (mpAt X (446 + 16 * i) (i + 1)).cells) rfl rfl (by decide) FS.nil) rfl ?_
      clear H; intro b7 w77 hb7 H F
      replace O := O.new F hb7 H.look
      refine apO (zs := MP.zero.cells) (mpAt X (446 + 16 * i) (i + 1)).cells O rfl rfl Tryd.underlying59 ri28 rfl (cells_look H.look) (fun u hu => mp_one (qs := [_]) u (by simpa using hu)) (by simp) (by omega) (by omega) rfl ?_
      clear O H F; intro A9 cp9 w5 O
      replace O := O.drop
      refine asg (v := .slice _ _ _) rfl rfl ?_
      refine nl ?_
      refine in_n ?_
      refine then_n ?_
      refine rg ?_
      refine add rfl rfl (by first | exact w_i64 (by omega) | exact w_i64 (rng_i64 _) | rfl) rfl ?_
      refine mv (v := .int .i64 _) rfl rfl ?_
      refine nl ?_
      refine loop_n ?_
      exact ⟨(i + 1, A9, cp9), (by (try dsimp only); omega), ⟨by omega, by rw [take_succ_get (mpsOf_get (cur := X) (by omega)), List.flatMap_append, List.flatMap_singleton]; exact O⟩, (fC (by first | rfl | exact congrArg (Value.int _) (by first | omega | assumption | (symm; assumption) | (simp; done) | (simp; omega)) | exact congrArg (fun n => Value.slice _ n _) (by first | omega | (simp; done) | (simp; omega))) (fC (by first | rfl | exact congrArg (Value.int _) (by first | omega | assumption | (symm; assumption) | (simp; done) | (simp; omega)) | exact congrArg (fun n => Value.slice _ n _) (by first | omega | (simp; done) | (simp; omega))) (fN _))), (by repeat (first | exact Agree.setL rfl Agree.mask | exact Agree.self _ _ | refine Agree.upd rfl ?_ | refine Agree.setL rfl ?_ | refine Agree.mask2 rfl ?_))⟩
    · refine ex ?_
      refine then_e ?_
      refine loop_e ?_
      refine in_hit rfl ?_
      refine then_n ?_
      refine sq ?_
      refine rg ?_
      refine mv (v := .slice _ _ _) rfl rfl ?_
      refine mv (v := .pointer _) rfl rfl ?_
      refine cl ca21 (c_tabUUID _ _ _ _ _ _ H.look) rfl ?_
      rintro _ w6 ⟨rfl, F⟩
      replace H := H.keep F; replace O := O.keep F; clear F
      refine asg (v := .slice _ _ _) rfl rfl ?_
      refine asg (v := .string _) rfl rfl ?_
      refine asg (v := .bool _) rfl rfl ?_
      refine nl ?_
      refine then_n ?_
      refine rt ?_
      refine fin_r ?_
      obtain rfl : i = 4 := by omega
      have hcp := O.cap_ge
      have htk : (mpsOf X).take 4 = mpsOf X := rfl
      rw [htk] at O
      refine ⟨A2, cap, uu, rfl, ⟨rfl, hcp, fun h => ?_, O.cells, fun q hq => ?_⟩, O.sh.fr⟩
      · subst h
        rcases O.own with ⟨_, h, _⟩ | ⟨_, _, h, _⟩
        · cases h
        · cases h
      · simp only [mpsOf, List.mem_cons, List.not_mem_nil, or_false] at hq
        rcases hq with rfl | rfl | rfl | rfl <;> exact mpAt_ok _ _ _ (by decide) (by omega)

end Go.Proofs.YtgmkjndmjnbahaaDoor.X
